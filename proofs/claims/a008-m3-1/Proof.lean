import JvmDerived
import JvmDerived.Pilot.@@N@@Statement
import JvmDerived.Pilot.@@N@@Code
set_option linter.unusedVariables false
set_option linter.unusedSimpArgs false
namespace Jvm.RoadKit
open Sem ClassFile Op Lib Jvm.Stand Jvm.Free Jvm.LawKit
section OwnGo
variable {p : Program} {l : Launch} {e : Env} {R : Room} {s : State} {m : MethodId} {args : Array Value} {below : List Frame} {meth : Method} {c : Code} {T T' : State} {locs : List Loc} {cells slots kc ks : Nat} {Q : Option Value → Heap → List Loc → Prop} {f f' : JFrame} {h : Heap}
/-- from the state T with the top frame f the body comes to its end, and what it leaves meets Q -/
def Go (p : Program) (e : Env) (below : List Frame) (s : State) (kc ks : Nat) (Q : Option Value → Heap → List Loc → Prop) (T : State) (f : JFrame) : Prop :=
  ∃ (s₂ : State) (o : Outcome), Steps p.tables e below (T.setTop f) s₂ ∧ s₂.status = .running ∧ Ended s₂ below o ∧ ∃ v L, o = .returned v ∧ Q v s₂.heap L ∧ FrameEnd s o s₂ L kc ks
theorem Go.step (h : ∀ target, Steps p.tables e below (T'.setTop f') target → Steps p.tables e below (T.setTop f) target) (k : Go p e below s kc ks Q T' f') : Go p e below s kc ks Q T f := by
  obtain ⟨s₂, o, h1, r⟩ := k
  exact ⟨s₂, o, h _ h1, r⟩
theorem Go.trans (h : Steps p.tables e below (T.setTop f) (T'.setTop f')) (k : Go p e below s kc ks Q T' f') : Go p e below s kc ks Q T f := by
  obtain ⟨s₂, o, h1, r⟩ := k
  exact ⟨s₂, o, h.trans h1, r⟩
theorem Go.cast (q : f = f') (k : Go p e below s kc ks Q T f') : Go p e below s kc ks Q T f := q ▸ k
theorem Go.enter {g : JFrame} {s₁ : State} (k : Go p e below s kc ks Q s₁ f) (q : g = f) :
    ∃ s₂ o, Steps p.tables e below (s₁.setTop g) s₂ ∧ s₂.status = .running ∧ Ended s₂ below o ∧ ∃ v L, o = .returned v ∧ Q v s₂.heap L ∧ FrameEnd s o s₂ L kc ks := by
  subst q; exact k
theorem Go.ret (X : Stand p l e R s m args below meth c T locs cells slots) (hx : p.tables.exec = Jvm.exec) {pc : Nat} {Ls : Array Slot} {w : Value} {t : FieldType} {i : Instr} {rest : List Value} (hret : meth.sig.returnType = some t) (hlk : meth.locks = false) (hn : narrow t w = w)
    (hi : (i = .ireturn ∧ (t = .int ∨ t = .boolean ∨ t = .byte ∨ t = .char ∨ t = .short) ∧ ∃ z, w = .int z) ∨ (i = .lreturn ∧ t = .long ∧ ∃ z, w = .long z) ∨ (i = .dreturn ∧ t = .double ∧ ∃ z, w = .double z) ∨ (i = .freturn ∧ t = .float ∧ ∃ z, w = .float z) ∨ (i = .areturn ∧ t.isReference = true ∧ w.isRef = true))
    (hd : decode c.code pc = .ok (i, 1)) (eT : T.heap = h) (hc : cells ≤ kc) (hs : slots ≤ ks) (hQ : Q (some w) h locs) : Go p e below s kc ks Q T (mkF m pc Ls (w :: rest)) := by
  obtain ⟨fs, hr, hrun, hended, hW, hsame⟩ := X.leave (v := some w) (fun q => by rw [hret] at q; cases q) hlk
  exact ⟨_, _, retOut X hx hret hn hi hd hr, hrun, hended, _, _, rfl, (by subst eT; exact hQ), ⟨_, rfl⟩, hW, hsame.mono hc hs⟩
theorem Go.retI (X : Stand p l e R s m args below meth c T locs cells slots) (hx : p.tables.exec = Jvm.exec) {pc : Nat} {Ls : Array Slot} {z : Int32} {rest : List Value} (hret : meth.sig.returnType = some .int) (hlk : meth.locks = false)
    (hd : decode c.code pc = .ok (.ireturn, 1)) (eT : T.heap = h) (hc : cells ≤ kc) (hs : slots ≤ ks) (hQ : Q (some (.int z)) h locs) : Go p e below s kc ks Q T (mkF m pc Ls (.int z :: rest)) :=
  Go.ret X hx hret hlk rfl (Or.inl ⟨rfl, Or.inl rfl, _, rfl⟩) hd eT hc hs hQ
theorem Go.retJ (X : Stand p l e R s m args below meth c T locs cells slots) (hx : p.tables.exec = Jvm.exec) {pc : Nat} {Ls : Array Slot} {z : Int64} {rest : List Value} (hret : meth.sig.returnType = some .long) (hlk : meth.locks = false)
    (hd : decode c.code pc = .ok (.lreturn, 1)) (eT : T.heap = h) (hc : cells ≤ kc) (hs : slots ≤ ks) (hQ : Q (some (.long z)) h locs) : Go p e below s kc ks Q T (mkF m pc Ls (.long z :: rest)) :=
  Go.ret X hx hret hlk rfl (Or.inr (Or.inl ⟨rfl, rfl, _, rfl⟩)) hd eT hc hs hQ
theorem Go.retA (X : Stand p l e R s m args below meth c T locs cells slots) (hx : p.tables.exec = Jvm.exec) {pc : Nat} {Ls : Array Slot} {w : Value} {t : FieldType} {rest : List Value} (hret : meth.sig.returnType = some t) (hlk : meth.locks = false) (ht : t.isReference = true) (hv : w.isRef = true)
    (hd : decode c.code pc = .ok (.areturn, 1)) (eT : T.heap = h) (hc : cells ≤ kc) (hs : slots ≤ ks) (hQ : Q (some w) h locs) : Go p e below s kc ks Q T (mkF m pc Ls (w :: rest)) :=
  Go.ret X hx hret hlk (by cases t <;> first | (cases ht; done) | (cases w <;> first | (cases hv; done) | rfl)) (Or.inr (Or.inr (Or.inr (Or.inr ⟨rfl, ht, hv⟩)))) hd eT hc hs hQ
theorem Go.retN (X : Stand p l e R s m args below meth c T locs cells slots) (hx : p.tables.exec = Jvm.exec) {pc : Nat} {Ls : Array Slot} {z : Int32} {t : FieldType} {rest : List Value} (hret : meth.sig.returnType = some t) (hlk : meth.locks = false) (ht : t = .boolean ∨ t = .byte ∨ t = .char ∨ t = .short)
    (hd : decode c.code pc = .ok (.ireturn, 1)) (eT : T.heap = h) (hc : cells ≤ kc) (hs : slots ≤ ks) (hQ : Q (some (.int (nar t z))) h locs) : Go p e below s kc ks Q T (mkF m pc Ls (.int z :: rest)) := by
  obtain ⟨fs, hr, hrun, hended, hW, hsame⟩ := X.leave (v := some (.int (nar t z))) (fun q => by rw [hret] at q; cases q) hlk
  exact ⟨_, _, Jvm.RoadKit.retN X hx hret ht hd hr, hrun, hended, _, _, rfl, (by subst eT; exact hQ), ⟨_, rfl⟩, hW, hsame.mono hc hs⟩
theorem Go.ret0 (X : Stand p l e R s m args below meth c T locs cells slots) (hx : p.tables.exec = Jvm.exec) {pc : Nat} {Ls : Array Slot} (hret : meth.sig.returnType = none) (hlk : meth.locks = false)
    (hd : decode c.code pc = .ok (.return_, 1)) (eT : T.heap = h) (hc : cells ≤ kc) (hs : slots ≤ ks) (hQ : Q none h locs) : Go p e below s kc ks Q T (mkF m pc Ls []) := by
  obtain ⟨fs, hr, hrun, hended, hW, hsame⟩ := X.leave (v := none) (fun _ => rfl) hlk
  exact ⟨_, _, X.returnOut hx hret hd hr, hrun, hended, _, _, rfl, (by subst eT; exact hQ), ⟨_, rfl⟩, hW, hsame.mono hc hs⟩
theorem own_selp {args' : Array Value} {y : MethodName} {n : Nat} (wi : (Cond.instantiable y.cls n).before args' s = true) (hpriv : s.PrivateAt y) (hinst : (Cond.instanceMethod y).before args' s = true) (hy : y.cls ≠ "java/lang/invoke/MethodHandle" ∧ y.cls ≠ "java/lang/invoke/VarHandle") : (Cond.selects y.cls y y).before args' s = true := by
  obtain ⟨c, k, h1, h2, -, h4, -⟩ := Cond.instantiable_spec wi
  exact selects_self_of_private h1 h2 (by simp only [Bool.or_eq_false_iff] at h4; exact h4.1) hpriv hinst hy
theorem own_mvMN {Z : State} {a0 args' : Array Value} {own host : String} {y : MethodName} {index : Nat} (hZ : Z.Warmed39 s.vm) (w : (Cond.methodLinkNest own index y host).before a0 Z = true) : (Cond.methodLinkNest own index y host).before args' s = true := (Cond.methodLinkNest_wide hZ w :)
theorem own_nar01 {z : Int32} (h : z = 0 ∨ z = 1) : nar .boolean z = z := by rcases h with rfl | rfl <;> decide
end OwnGo
end Jvm.RoadKit
namespace Jvm.Pilot.@@N@@
open Jvm Jvm.ClassFile Sem Op Lib Jvm.Free Jvm.Stand Jvm.LawKit Jvm.RoadKit Bundle Jvm.Pilot.@@N@@.Jvm.D
theorem own_tn {j : Int32} {n : Nat} (h0 : 0 ≤ j.toInt) (h1 : j.toInt < n) : j.toNatClampNeg < n := by simp only [Int32.toNatClampNeg]; omega
theorem own_tlt {a b : Int32} (h0 : ¬ a < 0) (h : a < b) : a.toNatClampNeg < b.toNatClampNeg := by
  rw [Int32.lt_iff_toInt_lt] at h0 h; have : (0 : Int32).toInt = 0 := rfl; simp only [Int32.toNatClampNeg]; omega
theorem own_tle {a b : Int32} (h : ¬ b < a) : a.toNatClampNeg ≤ b.toNatClampNeg := by
  rw [Int32.lt_iff_toInt_lt] at h; simp only [Int32.toNatClampNeg]; omega
theorem own_i2b2 (x : Int32) : x.toInt8.toInt32.toInt8.toInt32 = x.toInt8.toInt32 := by
  have := c_i2b x; have := c_i2b x.toInt8.toInt32
  rw [← Int32.toInt_inj]; omega
theorem own_g {l : List Value} {k : Nat} {x d : Value} (h : k < l.length) : (l.set k x).getD k d = x := by simp [List.getD_eq_getElem?_getD, h]
theorem own_n {l : List Value} {j k : Nat} {x d : Value} (h : k ≠ j) : (l.set k x).getD j d = l.getD j d := by simp [List.getD_eq_getElem?_getD, List.getElem?_set_ne h]
def own_imin (a b : Int32) : Int32 := if b < a then b else a
def own_cpl (vs : List Value) (c n : Nat) : List Value := (List.replicate n (Value.int 0)).take 0 ++ (List.range c).map (fun i => vs.getD (0 + i) (Value.int 0)) ++ (List.replicate n (Value.int 0)).drop (0 + c)
theorem own_cpl_len {vs : List Value} {c n : Nat} (h : c ≤ n) : (own_cpl vs c n).length = n := by simp [own_cpl]; omega
theorem own_cpl_at {vs : List Value} {c n i : Nat} (h : i < c) : (own_cpl vs c n).getD i (Value.int 0) = vs.getD i (Value.int 0) := by
  simp only [own_cpl, List.take_zero, List.nil_append, List.getD_eq_getElem?_getD]
  rw [List.getElem?_append_left (by simpa using h)]
  simp [h]
theorem d1_0 : decode prog_38_method_1_code 0 = .ok (.aload_n 0, 1) := by decide +kernel
theorem d1_1 : decode prog_38_method_1_code 1 = .ok (.invokespecial 5, 3) := by decide +kernel
theorem d1_4 : decode prog_38_method_1_code 4 = .ok (.aload_n 0, 1) := by decide +kernel
theorem d1_5 : decode prog_38_method_1_code 5 = .ok (.bipush 64, 2) := by decide +kernel
theorem d1_7 : decode prog_38_method_1_code 7 = .ok (.newarray .byte, 2) := by decide +kernel
theorem d1_9 : decode prog_38_method_1_code 9 = .ok (.putfield 11, 3) := by decide +kernel
theorem d1_12 : decode prog_38_method_1_code 12 = .ok (.return_, 1) := by decide +kernel
theorem pd___V : parseMethodDescriptor "()V" = some ⟨[], none⟩ := by decide +kernel
theorem pn_com_example_stitchwire_stitchwire_Output : plainName "com/example/stitchwire/stitchwire/Output" = true := by first | (simp [plainName, overriddenIn]; done) | decide +kernel
theorem ef_rmIn (m : MethodId) (ao : Addr) : entryFrame m #[(.ref ao)] 1 = mkF m 0 #[.val (.ref ao)] [] := by first | (simp [entryFrame, mkF, argsToLocals, Value.category]; done) | rfl
def Q_rmIn (Z : State) (ao : Addr) (h0 : Heap) (n0 : Nat) (v : Option Value) (h : Heap) (L : List Loc) : Prop := ∃ ab : Addr, ∃ kb : ClassId, (v = none) ∧ (Fr n0 L) ∧ (Keep h0 h [ao]) ∧ (h0.size ≤ ab) ∧ (Exa Z h ao "com/example/stitchwire/stitchwire/Output") ∧ (Fld Z h ao "com/example/stitchwire/stitchwire/Output" "buffer" "[B" (.ref ab)) ∧ (Fld Z h ao "com/example/stitchwire/stitchwire/Output" "size" "I" (.int (0 : Int32))) ∧ (Arv Z h ab kb .byte (64 : Int32) (List.replicate 64 (.int (0 : Int32))) (.int (0 : Int32)))
set_option maxRecDepth 65536 in
set_option maxHeartbeats 40000000 in
theorem rmIn (l : Launch) (Z : State) (a0 : Array Value) (hw : ∀ d ∈ tables_1, d.before a0 Z = true) (ws : List Jvm.Cond) (ao : Addr) (h0 : Heap) (n0 : Nat) (Z0 : n0 ≤ h0.size) (E0 : Exa Z h0 ao "com/example/stitchwire/stitchwire/Output") (Fb : Fld Z h0 ao "com/example/stitchwire/stitchwire/Output" "buffer" "[B" .null) (Fs : Fld Z h0 ao "com/example/stitchwire/stitchwire/Output" "size" "I" (.int (0 : Int32))) (g0 : n0 ≤ ao) :
    MetFree l (⟨"com/example/stitchwire/stitchwire/Output", "<init>", "()V"⟩ : MethodName) (head1 (Jvm.Cond.code (⟨"com/example/stitchwire/stitchwire/Output", "<init>", "()V"⟩ : MethodName) prog_38_method_1_code 1 none :: ws) ({ frames := 1, cells := 1, slots := 64, locals := 12 } : Room)) (fun aA U => aA = #[(.ref ao)] ∧ Z.Warmed39 U.vm ∧ U.heap = h0) (fun _ _ _ _ _ => True) (fun _ U o U' => ∃ v L, o = .returned v ∧ Q_rmIn Z ao h0 n0 v U'.heap L ∧ FrameEnd U o U' L ({ frames := 1, cells := 1, slots := 64, locals := 12 } : Room).cells ({ frames := 1, cells := 1, slots := 64, locals := 12 } : Room).slots) := by
  refine MetFree.of_bodySF (plainFor_of_name pn_com_example_stitchwire_stitchwire_Output) hisR ?_
  intro p e s m args below meth c s₁ Bd hml0 hP hK
  obtain ⟨rfl, hZ, hh⟩ := hP
  have hx := Bd.exec
  have hby := Bd.bytes
  have hml : c.maxLocals = 1 := hml0
  have hown : s.vm.findClass "com/example/stitchwire/stitchwire/Output" = some m.cls := findClass_of_methodNamed Bd.named
  have hnm := (name_of_methodNamed Bd.named Bd.method).1
  have hret := Bd.returns
  have hlk : meth.locks = false := BodyLoose.notSynchronized Bd
  have X0 : Stand p l e ({ frames := 1, cells := 1, slots := 64, locals := 12 } : Room) s m #[(.ref ao)] below meth c s₁ [] 0 0 := Stand.of_body Bd
  have e0 : s₁.heap = h0 := by rw [← hh, Bd.state]; rfl
  have N0 := Fr.nil n0
  suffices hgo : Go p e below s ({ frames := 1, cells := 1, slots := 64, locals := 12 } : Room).cells ({ frames := 1, cells := 1, slots := 64, locals := 12 } : Room).slots (Q_rmIn Z ao h0 n0) s₁ (mkF m 0 #[.val (.ref ao)] []) from hgo.enter (ef_rmIn m ao)
  refine Go.step (fun _ k => XS.aloadN X0.here hx rfl (hb hby d1_0) rfl rfl k) ?_
  show Go _ _ _ _ _ _ _ s₁ (mkF m 1 #[.val (.ref ao)] [(.ref ao)])
  obtain ⟨T1, X1, e1, st1⟩ := initO X0 hx hZ hown (hw _ (List.mem_of_getElem? (i := 7) rfl)) (hw _ (List.mem_of_getElem? (i := 8) rfl)) (hw _ (List.mem_of_getElem? (i := 9) rfl)) e0 (g := (mkF m 1 #[.val (.ref ao)] [(.ref ao)])) rfl (by rw [hml]; rfl) rfl (hb hby d1_1) (by decide) (W := 0) (by show 2 * 0 + _ ≤ _; exact Nat.le_of_eq rfl) (by decide)
  refine Go.step st1 ?_
  show Go _ _ _ _ _ _ _ T1 (mkF m 4 #[.val (.ref ao)] [])
  refine Go.step (fun _ k => XS.aloadN X1.here hx rfl (hb hby d1_4) rfl rfl k) ?_
  show Go _ _ _ _ _ _ _ T1 (mkF m 5 #[.val (.ref ao)] [(.ref ao)])
  refine Go.step (fun _ k => XS.bipush X1.here hx rfl (hb hby d1_5) k) ?_
  show Go _ _ _ _ _ _ _ T1 (mkF m 7 #[.val (.ref ao)] [(.int (64 : Int32)), (.ref ao)])
  obtain ⟨T2, h2, k2, X2, e2, E2, A2, st2⟩ := newP X1 hx hZ (hw _ (List.mem_of_getElem? (i := 0) rfl)) e1 (g := (mkF m 7 #[.val (.ref ao)] [(.int (64 : Int32)), (.ref ao)])) rfl (hb hby d1_7) rfl (by decide) (cap := 64) (by decide) (by decide) (by decide) (by decide)
  obtain ⟨b2, g2⟩ : ∃ z, z = h0.size := ⟨_, rfl⟩
  rw [← g2] at A2 st2
  refine Go.step st2 ?_
  have g_b2 : n0 ≤ b2 := Nat.le_trans Z0 (Nat.le_of_eq g2.symm)
  have sz_b2 : h0.size ≤ b2 := Nat.le_trans (Keep.refl h0 [ao]).1 (Nat.le_of_eq g2.symm)
  have ne_ao_b2 : ao ≠ b2 := Nat.ne_of_lt (Nat.lt_of_lt_of_le E0.lt (Nat.le_of_eq g2.symm))
  have Z2 : n0 ≤ h2.size := Nat.le_trans Z0 E2.1
  have KK2 : Keep h0 h2 [ao] := (Keep.refl h0 [ao]).ext E2
  have V2 : Arv Z h2 b2 k2 .byte (64 : Int32) [] (.int (0 : Int32)) := Arv.new A2 (by decide)
  have V3 : Arv Z h2 b2 k2 .byte (64 : Int32) (List.replicate 64 (.int (0 : Int32))) (.int (0 : Int32)) := (V2).pad (pad_rep [] (.int (0 : Int32)) 64)
  show Go _ _ _ _ _ _ _ T2 (mkF m 9 #[.val (.ref ao)] [(.ref b2), (.ref ao)])
  have f4 : Fld Z h2 ao "com/example/stitchwire/stitchwire/Output" "buffer" "[B" .null := (Fb.ext E2)
  have f5 : Exa Z h2 ao "com/example/stitchwire/stitchwire/Output" := (E0.ext E2)
  obtain ⟨T6, h6, X6, e6, W6, st6⟩ := putF X2 hx hZ hown (host := "") (Or.inl (hw _ (List.mem_of_getElem? (i := 10) rfl))) Via.refl e2 f4 f5 (Or.inl (hw _ (List.mem_of_getElem? (i := 11) rfl))) (hw _ (List.mem_of_getElem? (i := 2) rfl)) (ty := (.array .byte)) (by decide) rfl rfl (g := (mkF m 9 #[.val (.ref ao)] [(.ref b2), (.ref ao)])) rfl rfl (hb hby d1_9)
  refine Go.step st6 ?_
  have Fw6 := f4.same W6
  have N6 := Fr.snoc X6 N0 g0
  have Z6 : n0 ≤ h6.size := Nat.le_trans Z2 (Keep.of_wr W6).1
  have KK6 : Keep h0 h6 [ao] := KK2.wr W6 (Or.inl (List.mem_of_getElem? (i := 0) rfl))
  show Go _ _ _ _ _ _ _ T6 (mkF m 12 #[.val (.ref ao)] [])
  have f7 : Exa Z h6 ao "com/example/stitchwire/stitchwire/Output" := (f5.wr W6)
  have f8 : Fld Z h6 ao "com/example/stitchwire/stitchwire/Output" "size" "I" (.int (0 : Int32)) := ((Fs.ext E2).other W6 (Or.inr (slot_ne (a0 := a0) (C := "com/example/stitchwire/stitchwire/Output") (Or.inl (hw _ (List.mem_of_getElem? (i := 22) rfl))) (Or.inl (hw _ (List.mem_of_getElem? (i := 11) rfl))) (by decide) (t := .int) (t' := (.array .byte)) (by decide) (by decide))))
  have f9 : Arv Z h6 b2 k2 .byte (64 : Int32) (List.replicate 64 (.int (0 : Int32))) (.int (0 : Int32)) := (V3.other W6 (Ne.symm ne_ao_b2))
  exact Go.ret0 X6 hx hret hlk (hb hby d1_12) e6 (by decide) (by decide) ⟨b2, k2, rfl, N6, KK6, sz_b2, f7, Fw6, f8, f9⟩
theorem d4_0 : decode prog_38_method_33_code 0 = .ok (.iload_n 1, 1) := by decide +kernel
theorem d4_1 : decode prog_38_method_33_code 1 = .ok (.aload_n 0, 1) := by decide +kernel
theorem d4_2 : decode prog_38_method_33_code 2 = .ok (.getfield 11, 3) := by decide +kernel
theorem d4_5 : decode prog_38_method_33_code 5 = .ok (.arraylength, 1) := by decide +kernel
theorem d4_6 : decode prog_38_method_33_code 6 = .ok (.aload_n 0, 1) := by decide +kernel
theorem d4_7 : decode prog_38_method_33_code 7 = .ok (.getfield 15, 3) := by decide +kernel
theorem d4_10 : decode prog_38_method_33_code 10 = .ok (.isub, 1) := by decide +kernel
theorem d4_11 : decode prog_38_method_33_code 11 = .ok (.if_icmp .le 8, 3) := by decide +kernel
theorem d4_14 : decode prog_38_method_33_code 14 = .ok (.aload_n 0, 1) := by decide +kernel
theorem d4_15 : decode prog_38_method_33_code 15 = .ok (.iload_n 1, 1) := by decide +kernel
theorem d4_16 : decode prog_38_method_33_code 16 = .ok (.invokevirtual 263, 3) := by decide +kernel
theorem d4_19 : decode prog_38_method_33_code 19 = .ok (.return_, 1) := by decide +kernel
theorem pd__I_V : parseMethodDescriptor "(I)V" = some ⟨[.int], none⟩ := by decide +kernel
theorem ef_rmEn (m : MethodId) (ao : Addr) (nd : Int32) : entryFrame m #[(.ref ao), (.int nd)] 2 = mkF m 0 #[.val (.ref ao), .val (.int nd)] [] := by first | (simp [entryFrame, mkF, argsToLocals, Value.category]; done) | rfl
def Q_rmEn (Z : State) (ao : Addr) (nd : Int32) (ab : Addr) (kb : ClassId) (nN : Int32) (sz : Int32) (vs : List Value) (h0 : Heap) (n0 : Nat) (v : Option Value) (h : Heap) (L : List Loc) : Prop := (v = none) ∧ (Fr n0 L) ∧ (h = h0)
set_option maxRecDepth 65536 in
set_option maxHeartbeats 40000000 in
theorem rmEn (l : Launch) (Z : State) (a0 : Array Value) (hw : ∀ d ∈ tables_1, d.before a0 Z = true) (ws : List Jvm.Cond) (ao : Addr) (nd : Int32) (ab : Addr) (kb : ClassId) (nN : Int32) (sz : Int32) (vs : List Value) (h0 : Heap) (n0 : Nat) (Z0 : n0 ≤ h0.size) (E0 : Exa Z h0 ao "com/example/stitchwire/stitchwire/Output") (Fb : Fld Z h0 ao "com/example/stitchwire/stitchwire/Output" "buffer" "[B" (.ref ab)) (Fs : Fld Z h0 ao "com/example/stitchwire/stitchwire/Output" "size" "I" (.int sz)) (V0 : Arv Z h0 ab kb .byte nN vs (.int (0 : Int32))) (hn : ¬ ((nN - sz) < nd)) :
    MetFree l (⟨"com/example/stitchwire/stitchwire/Output", "ensureRoom", "(I)V"⟩ : MethodName) (head1 (Jvm.Cond.code (⟨"com/example/stitchwire/stitchwire/Output", "ensureRoom", "(I)V"⟩ : MethodName) prog_38_method_33_code 2 none :: ws) ({ frames := 0, cells := 0, slots := 0, locals := 0 } : Room)) (fun aA U => aA = #[(.ref ao), (.int nd)] ∧ Z.Warmed39 U.vm ∧ U.heap = h0) (fun _ _ _ _ _ => True) (fun _ U o U' => ∃ v L, o = .returned v ∧ Q_rmEn Z ao nd ab kb nN sz vs h0 n0 v U'.heap L ∧ FrameEnd U o U' L ({ frames := 0, cells := 0, slots := 0, locals := 0 } : Room).cells ({ frames := 0, cells := 0, slots := 0, locals := 0 } : Room).slots) := by
  refine MetFree.of_bodySF (plainFor_of_name pn_com_example_stitchwire_stitchwire_Output) hisR ?_
  intro p e s m args below meth c s₁ Bd hml0 hP hK
  obtain ⟨rfl, hZ, hh⟩ := hP
  have hx := Bd.exec
  have hby := Bd.bytes
  have hml : c.maxLocals = 2 := hml0
  have hown : s.vm.findClass "com/example/stitchwire/stitchwire/Output" = some m.cls := findClass_of_methodNamed Bd.named
  have hnm := (name_of_methodNamed Bd.named Bd.method).1
  have hret := Bd.returns
  have hlk : meth.locks = false := BodyLoose.notSynchronized Bd
  have X0 : Stand p l e ({ frames := 0, cells := 0, slots := 0, locals := 0 } : Room) s m #[(.ref ao), (.int nd)] below meth c s₁ [] 0 0 := Stand.of_body Bd
  have e0 : s₁.heap = h0 := by rw [← hh, Bd.state]; rfl
  have N0 := Fr.nil n0
  suffices hgo : Go p e below s ({ frames := 0, cells := 0, slots := 0, locals := 0 } : Room).cells ({ frames := 0, cells := 0, slots := 0, locals := 0 } : Room).slots (Q_rmEn Z ao nd ab kb nN sz vs h0 n0) s₁ (mkF m 0 #[.val (.ref ao), .val (.int nd)] []) from hgo.enter (ef_rmEn m ao nd)
  refine Go.step (fun _ k => XS.iloadN X0.here hx rfl (hb hby d4_0) rfl k) ?_
  show Go _ _ _ _ _ _ _ s₁ (mkF m 1 #[.val (.ref ao), .val (.int nd)] [(.int nd)])
  refine Go.step (fun _ k => XS.aloadN X0.here hx rfl (hb hby d4_1) rfl rfl k) ?_
  show Go _ _ _ _ _ _ _ s₁ (mkF m 2 #[.val (.ref ao), .val (.int nd)] [(.ref ao), (.int nd)])
  obtain ⟨T10, X10, e10, st10⟩ := getF X0 hx hZ hown (host := "") (Or.inl (hw _ (List.mem_of_getElem? (i := 10) rfl))) Via.refl e0 Fb (g := (mkF m 2 #[.val (.ref ao), .val (.int nd)] [(.ref ao), (.int nd)])) rfl rfl (hb hby d4_2)
  refine Go.step st10 ?_
  show Go _ _ _ _ _ _ _ T10 (mkF m 5 #[.val (.ref ao), .val (.int nd)] [(.ref ab), (.int nd)])
  obtain ⟨cl11, Ar11, -, S11, M11, -, -⟩ := id (V0)
  have al11 := X10.arraylength hx (by rw [e10]; exact Ar11.1) (State.isArrayOf_alike hZ.alike Ar11.2.1) (g := (mkF m 5 #[.val (.ref ao), .val (.int nd)] [(.ref ab), (.int nd)])) rfl rfl (hb hby d4_5)
  rw [len_of S11 M11] at al11
  refine Go.step al11 ?_
  show Go _ _ _ _ _ _ _ T10 (mkF m 6 #[.val (.ref ao), .val (.int nd)] [(.int nN), (.int nd)])
  refine Go.step (fun _ k => XS.aloadN X10.here hx rfl (hb hby d4_6) rfl rfl k) ?_
  show Go _ _ _ _ _ _ _ T10 (mkF m 7 #[.val (.ref ao), .val (.int nd)] [(.ref ao), (.int nN), (.int nd)])
  obtain ⟨T12, X12, e12, st12⟩ := getF X10 hx hZ hown (host := "") (Or.inl (hw _ (List.mem_of_getElem? (i := 21) rfl))) Via.refl e10 Fs (g := (mkF m 7 #[.val (.ref ao), .val (.int nd)] [(.ref ao), (.int nN), (.int nd)])) rfl rfl (hb hby d4_7)
  refine Go.step st12 ?_
  show Go _ _ _ _ _ _ _ T12 (mkF m 10 #[.val (.ref ao), .val (.int nd)] [(.int sz), (.int nN), (.int nd)])
  refine Go.step (fun _ k => XS.isub X12.here hx rfl (hb hby d4_10) rfl k) ?_
  show Go _ _ _ _ _ _ _ T12 (mkF m 11 #[.val (.ref ao), .val (.int nd)] [(.int (nN - sz)), (.int nd)])
  have hc11_13 : ¬ ((nN - sz) < nd) := hn
  refine Go.step (fun _ k => XS.icmpYes X12.here hx rfl (pc0 := 11) (pc' := 19) rfl (hb hby d4_11) rfl (flt hc11_13).2.2.2 (by decide) (by decide) k) ?_
  show Go _ _ _ _ _ _ _ T12 (mkF m 19 #[.val (.ref ao), .val (.int nd)] [])
  exact Go.ret0 X12 hx hret hlk (hb hby d4_19) e12 (by decide) (by decide) ⟨rfl, N0, rfl⟩
theorem d3_0 : decode prog_38_method_7_code 0 = .ok (.aload_n 0, 1) := by decide +kernel
theorem d3_1 : decode prog_38_method_7_code 1 = .ok (.iconst 1, 1) := by decide +kernel
theorem d3_2 : decode prog_38_method_7_code 2 = .ok (.invokevirtual 64, 3) := by decide +kernel
theorem d3_5 : decode prog_38_method_7_code 5 = .ok (.aload_n 0, 1) := by decide +kernel
theorem d3_6 : decode prog_38_method_7_code 6 = .ok (.getfield 11, 3) := by decide +kernel
theorem d3_9 : decode prog_38_method_7_code 9 = .ok (.aload_n 0, 1) := by decide +kernel
theorem d3_10 : decode prog_38_method_7_code 10 = .ok (.dup, 1) := by decide +kernel
theorem d3_11 : decode prog_38_method_7_code 11 = .ok (.getfield 15, 3) := by decide +kernel
theorem d3_14 : decode prog_38_method_7_code 14 = .ok (.dup_x1, 1) := by decide +kernel
theorem d3_15 : decode prog_38_method_7_code 15 = .ok (.iconst 1, 1) := by decide +kernel
theorem d3_16 : decode prog_38_method_7_code 16 = .ok (.iadd, 1) := by decide +kernel
theorem d3_17 : decode prog_38_method_7_code 17 = .ok (.putfield 15, 3) := by decide +kernel
theorem d3_20 : decode prog_38_method_7_code 20 = .ok (.iload_n 1, 1) := by decide +kernel
theorem d3_21 : decode prog_38_method_7_code 21 = .ok (.i2b, 1) := by decide +kernel
theorem d3_22 : decode prog_38_method_7_code 22 = .ok (.bastore, 1) := by decide +kernel
theorem d3_23 : decode prog_38_method_7_code 23 = .ok (.return_, 1) := by decide +kernel
theorem ef_rmWb (m : MethodId) (ao : Addr) (iv : Int32) : entryFrame m #[(.ref ao), (.int iv)] 2 = mkF m 0 #[.val (.ref ao), .val (.int iv)] [] := by first | (simp [entryFrame, mkF, argsToLocals, Value.category]; done) | rfl
def Q_rmWb (Z : State) (ao : Addr) (iv : Int32) (ab : Addr) (kb : ClassId) (nN : Int32) (sz : Int32) (vs : List Value) (h0 : Heap) (n0 : Nat) (v : Option Value) (h : Heap) (L : List Loc) : Prop := (v = none) ∧ (Fr n0 L) ∧ (Keep h0 h [ao, ab]) ∧ (Exa Z h ao "com/example/stitchwire/stitchwire/Output") ∧ (Fld Z h ao "com/example/stitchwire/stitchwire/Output" "buffer" "[B" (.ref ab)) ∧ (Fld Z h ao "com/example/stitchwire/stitchwire/Output" "size" "I" (.int (sz + (1 : Int32)))) ∧ (Arv Z h ab kb .byte nN (vs.set sz.toNatClampNeg (.int (nar .byte iv.toInt8.toInt32))) (.int (0 : Int32)))
set_option maxRecDepth 65536 in
set_option maxHeartbeats 40000000 in
theorem rmWb (l : Launch) (Z : State) (a0 : Array Value) (hw : ∀ d ∈ tables_1, d.before a0 Z = true) (ws : List Jvm.Cond) (ao : Addr) (iv : Int32) (ab : Addr) (kb : ClassId) (nN : Int32) (sz : Int32) (vs : List Value) (h0 : Heap) (n0 : Nat) (Z0 : n0 ≤ h0.size) (E0 : Exa Z h0 ao "com/example/stitchwire/stitchwire/Output") (Fb : Fld Z h0 ao "com/example/stitchwire/stitchwire/Output" "buffer" "[B" (.ref ab)) (Fs : Fld Z h0 ao "com/example/stitchwire/stitchwire/Output" "size" "I" (.int sz)) (V0 : Arv Z h0 ab kb .byte nN vs (.int (0 : Int32))) (g0 : n0 ≤ ao) (g1 : n0 ≤ ab) (ne0 : ao ≠ ab) (hlen : vs.length = nN.toNatClampNeg) (hn : ¬ ((nN - sz) < (1 : Int32))) (hs0 : ¬ (sz < (0 : Int32))) (hs1 : sz < nN) :
    MetFree l (⟨"com/example/stitchwire/stitchwire/Output", "writeByte", "(I)V"⟩ : MethodName) (head1 (Jvm.Cond.code (⟨"com/example/stitchwire/stitchwire/Output", "writeByte", "(I)V"⟩ : MethodName) prog_38_method_7_code 2 none :: ws) ({ frames := 1, cells := 0, slots := 0, locals := 13 } : Room)) (fun aA U => aA = #[(.ref ao), (.int iv)] ∧ Z.Warmed39 U.vm ∧ U.heap = h0) (fun _ _ _ _ _ => True) (fun _ U o U' => ∃ v L, o = .returned v ∧ Q_rmWb Z ao iv ab kb nN sz vs h0 n0 v U'.heap L ∧ FrameEnd U o U' L ({ frames := 1, cells := 0, slots := 0, locals := 13 } : Room).cells ({ frames := 1, cells := 0, slots := 0, locals := 13 } : Room).slots) := by
  refine MetFree.of_bodySF (plainFor_of_name pn_com_example_stitchwire_stitchwire_Output) hisR ?_
  intro p e s m args below meth c s₁ Bd hml0 hP hK
  obtain ⟨rfl, hZ, hh⟩ := hP
  have hx := Bd.exec
  have hby := Bd.bytes
  have hml : c.maxLocals = 2 := hml0
  have hown : s.vm.findClass "com/example/stitchwire/stitchwire/Output" = some m.cls := findClass_of_methodNamed Bd.named
  have hnm := (name_of_methodNamed Bd.named Bd.method).1
  have hret := Bd.returns
  have hlk : meth.locks = false := BodyLoose.notSynchronized Bd
  have X0 : Stand p l e ({ frames := 1, cells := 0, slots := 0, locals := 13 } : Room) s m #[(.ref ao), (.int iv)] below meth c s₁ [] 0 0 := Stand.of_body Bd
  have e0 : s₁.heap = h0 := by rw [← hh, Bd.state]; rfl
  have N0 := Fr.nil n0
  suffices hgo : Go p e below s ({ frames := 1, cells := 0, slots := 0, locals := 13 } : Room).cells ({ frames := 1, cells := 0, slots := 0, locals := 13 } : Room).slots (Q_rmWb Z ao iv ab kb nN sz vs h0 n0) s₁ (mkF m 0 #[.val (.ref ao), .val (.int iv)] []) from hgo.enter (ef_rmWb m ao iv)
  refine Go.step (fun _ k => XS.aloadN X0.here hx rfl (hb hby d3_0) rfl rfl k) ?_
  show Go _ _ _ _ _ _ _ s₁ (mkF m 1 #[.val (.ref ao), .val (.int iv)] [(.ref ao)])
  refine Go.step (fun _ k => XS.iconst X0.here hx rfl (hb hby d3_1) k) ?_
  show Go _ _ _ _ _ _ _ s₁ (mkF m 2 #[.val (.ref ao), .val (.int iv)] [(.int (1 : Int32)), (.ref ao)])
  obtain ⟨cq14, q14, q14'⟩ := E0.cell
  obtain ⟨_, _, ⟨T14, L14, k14, n14⟩, -, X14, ⟨Lc14, hQ14, l14, y14, z14⟩, st14⟩ := X0.privateBack hx (y := (⟨"com/example/stitchwire/stitchwire/Output", "ensureRoom", "(I)V"⟩ : MethodName)) hown (mvT hZ (hw _ (List.mem_of_getElem? (i := 17) rfl))) (mvT hZ (hw _ (List.mem_of_getElem? (i := 18) rfl))) (own_selp (mvT hZ (hw _ (List.mem_of_getElem? (i := 2) rfl))) (Cond.privateMethod_at (mvP hZ (hw _ (List.mem_of_getElem? (i := 19) rfl)) (args := #[]))) (mvT hZ (hw _ (List.mem_of_getElem? (i := 18) rfl))) (by decide)) (Cond.privateMethod_at (mvP hZ (hw _ (List.mem_of_getElem? (i := 19) rfl)) (args := #[]))) (mvT hZ (hw _ (List.mem_of_getElem? (i := 20) rfl))) (by decide) (backOf (W := 0) (rmEn l Z a0 hw [] ao (1 : Int32) ab kb nN sz vs h0 n0 Z0 E0 Fb Fs V0 hn) hZ (hw _ (List.mem_of_getElem? (i := 20) rfl)) (hw _ (List.mem_of_getElem? (i := 3) rfl)) (by decide) (by decide)) (g := (mkF m 2 #[.val (.ref ao), .val (.int iv)] [(.int (1 : Int32)), (.ref ao)])) rfl (by rw [hml]; rfl) (Steps.refl _) (a := ao) (by rw [e0]; exact q14) q14' (argsL := [(.int (1 : Int32))]) (rest := []) (lenOf pd__I_V rfl) rfl (by show 2 * 0 + _ ≤ _; exact Nat.le_of_eq rfl) (hb hby d3_2) (fun _ _ => ⟨rfl, e0, (by decide : 0 + 0 ≤ _), (by decide : 0 + 0 ≤ _)⟩)
  dsimp only [Pt.U, Pt.locs, Pt.cells, Pt.slots] at X14 l14 y14 z14 st14 hQ14
  subst l14 y14 z14
  obtain ⟨h14, e14⟩ : ∃ h, T14.heap = h := ⟨_, rfl⟩
  rw [e14] at hQ14
  obtain ⟨rfl, Nq14, hs14⟩ := hQ14
  have N14 := Fr.app N0 Nq14
  rw [hs14] at e14
  refine Go.trans st14 ?_
  show Go _ _ _ _ _ _ _ T14 (mkF m 5 #[.val (.ref ao), .val (.int iv)] [])
  refine Go.step (fun _ k => XS.aloadN X14.here hx rfl (hb hby d3_5) rfl rfl k) ?_
  show Go _ _ _ _ _ _ _ T14 (mkF m 6 #[.val (.ref ao), .val (.int iv)] [(.ref ao)])
  obtain ⟨T15, X15, e15, st15⟩ := getF X14 hx hZ hown (host := "") (Or.inl (hw _ (List.mem_of_getElem? (i := 10) rfl))) Via.refl e14 Fb (g := (mkF m 6 #[.val (.ref ao), .val (.int iv)] [(.ref ao)])) rfl rfl (hb hby d3_6)
  refine Go.step st15 ?_
  show Go _ _ _ _ _ _ _ T15 (mkF m 9 #[.val (.ref ao), .val (.int iv)] [(.ref ab)])
  refine Go.step (fun _ k => XS.aloadN X15.here hx rfl (hb hby d3_9) rfl rfl k) ?_
  show Go _ _ _ _ _ _ _ T15 (mkF m 10 #[.val (.ref ao), .val (.int iv)] [(.ref ao), (.ref ab)])
  refine Go.step (fun _ k => XS.dup X15.here hx rfl (hb hby d3_10) rfl rfl k) ?_
  show Go _ _ _ _ _ _ _ T15 (mkF m 11 #[.val (.ref ao), .val (.int iv)] [(.ref ao), (.ref ao), (.ref ab)])
  obtain ⟨T16, X16, e16, st16⟩ := getF X15 hx hZ hown (host := "") (Or.inl (hw _ (List.mem_of_getElem? (i := 21) rfl))) Via.refl e15 Fs (g := (mkF m 11 #[.val (.ref ao), .val (.int iv)] [(.ref ao), (.ref ao), (.ref ab)])) rfl rfl (hb hby d3_11)
  refine Go.step st16 ?_
  show Go _ _ _ _ _ _ _ T16 (mkF m 14 #[.val (.ref ao), .val (.int iv)] [(.int sz), (.ref ao), (.ref ab)])
  refine Go.step (fun _ k => XS.dupX1 X16.here hx rfl (hb hby d3_14) rfl rfl rfl k) ?_
  show Go _ _ _ _ _ _ _ T16 (mkF m 15 #[.val (.ref ao), .val (.int iv)] [(.int sz), (.ref ao), (.int sz), (.ref ab)])
  refine Go.step (fun _ k => XS.iconst X16.here hx rfl (hb hby d3_15) k) ?_
  show Go _ _ _ _ _ _ _ T16 (mkF m 16 #[.val (.ref ao), .val (.int iv)] [(.int (1 : Int32)), (.int sz), (.ref ao), (.int sz), (.ref ab)])
  refine Go.step (fun _ k => XS.iadd X16.here hx rfl (hb hby d3_16) rfl k) ?_
  show Go _ _ _ _ _ _ _ T16 (mkF m 17 #[.val (.ref ao), .val (.int iv)] [(.int (sz + (1 : Int32))), (.ref ao), (.int sz), (.ref ab)])
  obtain ⟨T17, h17, X17, e17, W17, st17⟩ := putF X16 hx hZ hown (host := "") (Or.inl (hw _ (List.mem_of_getElem? (i := 21) rfl))) Via.refl e16 Fs E0 (Or.inl (hw _ (List.mem_of_getElem? (i := 22) rfl))) (hw _ (List.mem_of_getElem? (i := 2) rfl)) (ty := .int) (by decide) rfl rfl (g := (mkF m 17 #[.val (.ref ao), .val (.int iv)] [(.int (sz + (1 : Int32))), (.ref ao), (.int sz), (.ref ab)])) rfl rfl (hb hby d3_17)
  refine Go.step st17 ?_
  have Fw17 := Fs.same W17
  have N17 := Fr.snoc X17 N14 g0
  have Z17 : n0 ≤ h17.size := Nat.le_trans Z0 (Keep.of_wr W17).1
  have KK17 : Keep h0 h17 [ao, ab] := (Keep.refl h0 [ao, ab]).wr W17 (Or.inl (List.mem_of_getElem? (i := 0) rfl))
  show Go _ _ _ _ _ _ _ T17 (mkF m 20 #[.val (.ref ao), .val (.int iv)] [(.int sz), (.ref ab)])
  refine Go.step (fun _ k => XS.iloadN X17.here hx rfl (hb hby d3_20) rfl k) ?_
  show Go _ _ _ _ _ _ _ T17 (mkF m 21 #[.val (.ref ao), .val (.int iv)] [(.int iv), (.int sz), (.ref ab)])
  refine Go.step (fun _ k => XS.i2b X17.here hx rfl (hb hby d3_21) rfl k) ?_
  show Go _ _ _ _ _ _ _ T17 (mkF m 22 #[.val (.ref ao), .val (.int iv)] [(.int (iv.toInt8.toInt32)), (.int sz), (.ref ab)])
  have f18 : Arv Z h17 ab kb .byte nN vs (.int (0 : Int32)) := (V0.other W17 (Ne.symm ne0))
  obtain ⟨cl19, Ar19, q19, S19, M19, H19, G19⟩ := id (f18)
  have hin19 : ¬ (sz < 0 ∨ cl19.slots.size ≤ (sz).toNatClampNeg) := inb_of S19 ⟨hs0, hs1⟩
  obtain ⟨T19, h19, X19, e19, W19, st19⟩ := stB X17 hx hZ e17 Ar19 (j := sz) hin19 (g := (mkF m 22 #[.val (.ref ao), .val (.int iv)] [(.int (iv.toInt8.toInt32)), (.int sz), (.ref ab)])) rfl rfl (hb hby d3_22)
  refine Go.step st19 ?_
  have V19 : Arv Z h19 ab kb .byte nN (vs.set sz.toNatClampNeg (.int (nar .byte (iv.toInt8.toInt32)))) (.int (0 : Int32)) := Arv.set Ar19 q19 S19 M19 H19 G19 (fits_nar_byte _) W19 sz.toNatClampNeg rfl (hlen ▸ own_tlt hs0 hs1)
  have N19 := Fr.snoc X19 N17 g1
  have Z19 : n0 ≤ h19.size := Nat.le_trans Z17 (Keep.of_wr W19).1
  have KK19 : Keep h0 h19 [ao, ab] := KK17.wr W19 (Or.inl (List.mem_of_getElem? (i := 1) rfl))
  show Go _ _ _ _ _ _ _ T19 (mkF m 23 #[.val (.ref ao), .val (.int iv)] [])
  have f20 : Exa Z h19 ao "com/example/stitchwire/stitchwire/Output" := ((E0.wr W17).wr W19)
  have f21 : Fld Z h19 ao "com/example/stitchwire/stitchwire/Output" "buffer" "[B" (.ref ab) := ((Fb.other W17 (Or.inr (slot_ne (a0 := a0) (C := "com/example/stitchwire/stitchwire/Output") (Or.inl (hw _ (List.mem_of_getElem? (i := 11) rfl))) (Or.inl (hw _ (List.mem_of_getElem? (i := 22) rfl))) (by decide) (t := (.array .byte)) (t' := .int) (by decide) (by decide)))).other W19 (Or.inl ne0))
  have f22 : Fld Z h19 ao "com/example/stitchwire/stitchwire/Output" "size" "I" (.int (sz + (1 : Int32))) := (Fw17.other W19 (Or.inl ne0))
  exact Go.ret0 X19 hx hret hlk (hb hby d3_23) e19 (by decide) (by decide) ⟨rfl, N19, KK19, f20, f21, f22, V19⟩
theorem d6_0 : decode prog_38_method_4_code 0 = .ok (.aload_n 0, 1) := by decide +kernel
theorem d6_1 : decode prog_38_method_4_code 1 = .ok (.getfield 15, 3) := by decide +kernel
theorem d6_4 : decode prog_38_method_4_code 4 = .ok (.ireturn, 1) := by decide +kernel
theorem ef_rmSi (m : MethodId) (ao : Addr) : entryFrame m #[(.ref ao)] 1 = mkF m 0 #[.val (.ref ao)] [] := by first | (simp [entryFrame, mkF, argsToLocals, Value.category]; done) | rfl
def Q_rmSi (Z : State) (ao : Addr) (sz : Int32) (h0 : Heap) (n0 : Nat) (v : Option Value) (h : Heap) (L : List Loc) : Prop := (v = some (.int sz)) ∧ (Fr n0 L) ∧ (h = h0)
set_option maxRecDepth 65536 in
set_option maxHeartbeats 40000000 in
theorem rmSi (l : Launch) (Z : State) (a0 : Array Value) (hw : ∀ d ∈ tables_1, d.before a0 Z = true) (ws : List Jvm.Cond) (ao : Addr) (sz : Int32) (h0 : Heap) (n0 : Nat) (Z0 : n0 ≤ h0.size) (E0 : Exa Z h0 ao "com/example/stitchwire/stitchwire/Output") (Fs : Fld Z h0 ao "com/example/stitchwire/stitchwire/Output" "size" "I" (.int sz)) :
    MetFree l (⟨"com/example/stitchwire/stitchwire/Output", "size", "()I"⟩ : MethodName) (head1 (Jvm.Cond.code (⟨"com/example/stitchwire/stitchwire/Output", "size", "()I"⟩ : MethodName) prog_38_method_4_code 1 (some .int) :: ws) ({ frames := 0, cells := 0, slots := 0, locals := 0 } : Room)) (fun aA U => aA = #[(.ref ao)] ∧ Z.Warmed39 U.vm ∧ U.heap = h0) (fun _ _ _ _ _ => True) (fun _ U o U' => ∃ v L, o = .returned v ∧ Q_rmSi Z ao sz h0 n0 v U'.heap L ∧ FrameEnd U o U' L ({ frames := 0, cells := 0, slots := 0, locals := 0 } : Room).cells ({ frames := 0, cells := 0, slots := 0, locals := 0 } : Room).slots) := by
  refine MetFree.of_bodySF (plainFor_of_name pn_com_example_stitchwire_stitchwire_Output) hisR ?_
  intro p e s m args below meth c s₁ Bd hml0 hP hK
  obtain ⟨rfl, hZ, hh⟩ := hP
  have hx := Bd.exec
  have hby := Bd.bytes
  have hml : c.maxLocals = 1 := hml0
  have hown : s.vm.findClass "com/example/stitchwire/stitchwire/Output" = some m.cls := findClass_of_methodNamed Bd.named
  have hnm := (name_of_methodNamed Bd.named Bd.method).1
  have hret := Bd.returns
  have hlk : meth.locks = false := BodyLoose.notSynchronized Bd
  have X0 : Stand p l e ({ frames := 0, cells := 0, slots := 0, locals := 0 } : Room) s m #[(.ref ao)] below meth c s₁ [] 0 0 := Stand.of_body Bd
  have e0 : s₁.heap = h0 := by rw [← hh, Bd.state]; rfl
  have N0 := Fr.nil n0
  suffices hgo : Go p e below s ({ frames := 0, cells := 0, slots := 0, locals := 0 } : Room).cells ({ frames := 0, cells := 0, slots := 0, locals := 0 } : Room).slots (Q_rmSi Z ao sz h0 n0) s₁ (mkF m 0 #[.val (.ref ao)] []) from hgo.enter (ef_rmSi m ao)
  refine Go.step (fun _ k => XS.aloadN X0.here hx rfl (hb hby d6_0) rfl rfl k) ?_
  show Go _ _ _ _ _ _ _ s₁ (mkF m 1 #[.val (.ref ao)] [(.ref ao)])
  obtain ⟨T23, X23, e23, st23⟩ := getF X0 hx hZ hown (host := "") (Or.inl (hw _ (List.mem_of_getElem? (i := 21) rfl))) Via.refl e0 Fs (g := (mkF m 1 #[.val (.ref ao)] [(.ref ao)])) rfl rfl (hb hby d6_1)
  refine Go.step st23 ?_
  show Go _ _ _ _ _ _ _ T23 (mkF m 4 #[.val (.ref ao)] [(.int sz)])
  exact Go.retI X23 hx hret hlk (hb hby d6_4) e23 (by decide) (by decide) ⟨rfl, N0, rfl⟩
theorem d9_0 : decode jdk_29_method_69_code 0 = .ok (.iload_n 0, 1) := by decide +kernel
theorem d9_1 : decode jdk_29_method_69_code 1 = .ok (.iload_n 1, 1) := by decide +kernel
theorem d9_2 : decode jdk_29_method_69_code 2 = .ok (.if_icmp .gt 7, 3) := by decide +kernel
theorem d9_5 : decode jdk_29_method_69_code 5 = .ok (.iload_n 0, 1) := by decide +kernel
theorem d9_6 : decode jdk_29_method_69_code 6 = .ok (.goto 4, 3) := by decide +kernel
theorem d9_9 : decode jdk_29_method_69_code 9 = .ok (.iload_n 1, 1) := by decide +kernel
theorem d9_10 : decode jdk_29_method_69_code 10 = .ok (.ireturn, 1) := by decide +kernel
theorem ef_rmMi (m : MethodId) (ia : Int32) (ib : Int32) : entryFrame m #[(.int ia), (.int ib)] 2 = mkF m 0 #[.val (.int ia), .val (.int ib)] [] := by first | (simp [entryFrame, mkF, argsToLocals, Value.category]; done) | rfl
def Q_rmMi (Z : State) (ia : Int32) (ib : Int32) (h0 : Heap) (n0 : Nat) (v : Option Value) (h : Heap) (L : List Loc) : Prop := (v = some (.int (own_imin ia ib))) ∧ (Fr n0 L) ∧ (h = h0)
set_option maxRecDepth 65536 in
set_option maxHeartbeats 40000000 in
theorem rmMi (l : Launch) (Z : State) (a0 : Array Value) (hw : ∀ d ∈ tables_1, d.before a0 Z = true) (ws : List Jvm.Cond) (ia : Int32) (ib : Int32) (h0 : Heap) (n0 : Nat) (Z0 : n0 ≤ h0.size) :
    MetFree l (⟨"java/lang/Math", "min", "(II)I"⟩ : MethodName) (head1 (Jvm.Cond.code (⟨"java/lang/Math", "min", "(II)I"⟩ : MethodName) jdk_29_method_69_code 2 (some .int) :: ws) ({ frames := 0, cells := 0, slots := 0, locals := 0 } : Room)) (fun aA U => aA = #[(.int ia), (.int ib)] ∧ Z.Warmed39 U.vm ∧ U.heap = h0) (fun _ _ _ _ _ => True) (fun _ U o U' => ∃ v L, o = .returned v ∧ Q_rmMi Z ia ib h0 n0 v U'.heap L ∧ FrameEnd U o U' L ({ frames := 0, cells := 0, slots := 0, locals := 0 } : Room).cells ({ frames := 0, cells := 0, slots := 0, locals := 0 } : Room).slots) := by
  refine MetFree.of_bodySF (Jvm.Free.JP.mathPlain rfl (by decide +kernel)) hisR ?_
  intro p e s m args below meth c s₁ Bd hml0 hP hK
  obtain ⟨rfl, hZ, hh⟩ := hP
  have hx := Bd.exec
  have hby := Bd.bytes
  have hml : c.maxLocals = 2 := hml0
  have hown : s.vm.findClass "java/lang/Math" = some m.cls := findClass_of_methodNamed Bd.named
  have hnm := (name_of_methodNamed Bd.named Bd.method).1
  have hret := Bd.returns
  have hlk : meth.locks = false := BodyLoose.notSynchronized Bd
  have X0 : Stand p l e ({ frames := 0, cells := 0, slots := 0, locals := 0 } : Room) s m #[(.int ia), (.int ib)] below meth c s₁ [] 0 0 := Stand.of_body Bd
  have e0 : s₁.heap = h0 := by rw [← hh, Bd.state]; rfl
  have N0 := Fr.nil n0
  suffices hgo : Go p e below s ({ frames := 0, cells := 0, slots := 0, locals := 0 } : Room).cells ({ frames := 0, cells := 0, slots := 0, locals := 0 } : Room).slots (Q_rmMi Z ia ib h0 n0) s₁ (mkF m 0 #[.val (.int ia), .val (.int ib)] []) from hgo.enter (ef_rmMi m ia ib)
  refine Go.step (fun _ k => XS.iloadN X0.here hx rfl (hb hby d9_0) rfl k) ?_
  show Go _ _ _ _ _ _ _ s₁ (mkF m 1 #[.val (.int ia), .val (.int ib)] [(.int ia)])
  refine Go.step (fun _ k => XS.iloadN X0.here hx rfl (hb hby d9_1) rfl k) ?_
  show Go _ _ _ _ _ _ _ s₁ (mkF m 2 #[.val (.int ia), .val (.int ib)] [(.int ib), (.int ia)])
  by_cases hc2_24 : ib < ia
  · refine Go.step (fun _ k => XS.icmpYes X0.here hx rfl (pc0 := 2) (pc' := 9) rfl (hb hby d9_2) rfl (tlt hc2_24).2.2.1 (by decide) (by decide) k) ?_
    show Go _ _ _ _ _ _ _ s₁ (mkF m 9 #[.val (.int ia), .val (.int ib)] [])
    refine Go.step (fun _ k => XS.iloadN X0.here hx rfl (hb hby d9_9) rfl k) ?_
    show Go _ _ _ _ _ _ _ s₁ (mkF m 10 #[.val (.int ia), .val (.int ib)] [(.int ib)])
    exact Go.retI X0 hx hret hlk (hb hby d9_10) e0 (by decide) (by decide) ⟨(congrArg (fun z => some (Value.int z)) (if_pos hc2_24).symm), N0, rfl⟩
  · refine Go.step (fun _ k => XS.icmpNo X0.here hx rfl (hb hby d9_2) rfl (flt hc2_24).2.2.1 k) ?_
    show Go _ _ _ _ _ _ _ s₁ (mkF m 5 #[.val (.int ia), .val (.int ib)] [])
    refine Go.step (fun _ k => XS.iloadN X0.here hx rfl (hb hby d9_5) rfl k) ?_
    show Go _ _ _ _ _ _ _ s₁ (mkF m 6 #[.val (.int ia), .val (.int ib)] [(.int ia)])
    refine Go.step (fun _ k => XS.goto X0.here hx rfl (pc0 := 6) (pc' := 10) rfl (hb hby d9_6) (by decide) (by decide) k) ?_
    show Go _ _ _ _ _ _ _ s₁ (mkF m 10 #[.val (.int ia), .val (.int ib)] [(.int ia)])
    exact Go.retI X0 hx hret hlk (hb hby d9_10) e0 (by decide) (by decide) ⟨(congrArg (fun z => some (Value.int z)) (if_neg hc2_24).symm), N0, rfl⟩
def own_max (a b : Int64) : Int64 := if a < b then b else a
def own_min (a b : Int64) : Int64 := if b < a then b else a
theorem d14_0 : decode jdk_29_method_66_code 0 = .ok (.lload_n 0, 1) := by decide +kernel
theorem d14_1 : decode jdk_29_method_66_code 1 = .ok (.lload_n 2, 1) := by decide +kernel
theorem d14_2 : decode jdk_29_method_66_code 2 = .ok (.lcmp, 1) := by decide +kernel
theorem d14_3 : decode jdk_29_method_66_code 3 = .ok (.ifCond .lt 7, 3) := by decide +kernel
theorem d14_6 : decode jdk_29_method_66_code 6 = .ok (.lload_n 0, 1) := by decide +kernel
theorem d14_7 : decode jdk_29_method_66_code 7 = .ok (.goto 4, 3) := by decide +kernel
theorem d14_10 : decode jdk_29_method_66_code 10 = .ok (.lload_n 2, 1) := by decide +kernel
theorem d14_11 : decode jdk_29_method_66_code 11 = .ok (.lreturn, 1) := by decide +kernel
theorem ef_rmMax (m : MethodId) (ja : Int64) (jb : Int64) : entryFrame m #[(.long ja), (.long jb)] 4 = mkF m 0 #[.val (.long ja), .second, .val (.long jb), .second] [] := by first | (simp [entryFrame, mkF, argsToLocals, Value.category]; done) | rfl
def Q_rmMax (Z : State) (ja : Int64) (jb : Int64) (h0 : Heap) (n0 : Nat) (v : Option Value) (h : Heap) (L : List Loc) : Prop := (v = some (.long (own_max ja jb))) ∧ (Fr n0 L) ∧ (h = h0)
set_option maxRecDepth 65536 in
set_option maxHeartbeats 40000000 in
theorem rmMax (l : Launch) (Z : State) (a0 : Array Value) (hw : ∀ d ∈ tables_1, d.before a0 Z = true) (ws : List Jvm.Cond) (ja : Int64) (jb : Int64) (h0 : Heap) (n0 : Nat) (Z0 : n0 ≤ h0.size) :
    MetFree l (⟨"java/lang/Math", "max", "(JJ)J"⟩ : MethodName) (head1 (Jvm.Cond.code (⟨"java/lang/Math", "max", "(JJ)J"⟩ : MethodName) jdk_29_method_66_code 4 (some .long) :: ws) ({ frames := 0, cells := 0, slots := 0, locals := 0 } : Room)) (fun aA U => aA = #[(.long ja), (.long jb)] ∧ Z.Warmed39 U.vm ∧ U.heap = h0) (fun _ _ _ _ _ => True) (fun _ U o U' => ∃ v L, o = .returned v ∧ Q_rmMax Z ja jb h0 n0 v U'.heap L ∧ FrameEnd U o U' L ({ frames := 0, cells := 0, slots := 0, locals := 0 } : Room).cells ({ frames := 0, cells := 0, slots := 0, locals := 0 } : Room).slots) := by
  refine MetFree.of_bodySF (Jvm.Free.JP.mathPlain rfl (by decide +kernel)) hisR ?_
  intro p e s m args below meth c s₁ Bd hml0 hP hK
  obtain ⟨rfl, hZ, hh⟩ := hP
  have hx := Bd.exec
  have hby := Bd.bytes
  have hml : c.maxLocals = 4 := hml0
  have hown : s.vm.findClass "java/lang/Math" = some m.cls := findClass_of_methodNamed Bd.named
  have hnm := (name_of_methodNamed Bd.named Bd.method).1
  have hret := Bd.returns
  have hlk : meth.locks = false := BodyLoose.notSynchronized Bd
  have X0 : Stand p l e ({ frames := 0, cells := 0, slots := 0, locals := 0 } : Room) s m #[(.long ja), (.long jb)] below meth c s₁ [] 0 0 := Stand.of_body Bd
  have e0 : s₁.heap = h0 := by rw [← hh, Bd.state]; rfl
  have N0 := Fr.nil n0
  suffices hgo : Go p e below s ({ frames := 0, cells := 0, slots := 0, locals := 0 } : Room).cells ({ frames := 0, cells := 0, slots := 0, locals := 0 } : Room).slots (Q_rmMax Z ja jb h0 n0) s₁ (mkF m 0 #[.val (.long ja), .second, .val (.long jb), .second] []) from hgo.enter (ef_rmMax m ja jb)
  refine Go.step (fun _ k => XS.lloadN X0.here hx rfl (hb hby d14_0) rfl k) ?_
  show Go _ _ _ _ _ _ _ s₁ (mkF m 1 #[.val (.long ja), .second, .val (.long jb), .second] [(.long ja)])
  refine Go.step (fun _ k => XS.lloadN X0.here hx rfl (hb hby d14_1) rfl k) ?_
  show Go _ _ _ _ _ _ _ s₁ (mkF m 2 #[.val (.long ja), .second, .val (.long jb), .second] [(.long jb), (.long ja)])
  refine Go.step (fun _ k => XS.lcmp X0.here hx rfl (hb hby d14_2) rfl k) ?_
  show Go _ _ _ _ _ _ _ s₁ (mkF m 3 #[.val (.long ja), .second, .val (.long jb), .second] [(.int (lcmpW ja jb))])
  by_cases hc3_25 : ja < jb
  · refine Go.step (fun _ k => XS.ifYes X0.here hx rfl (pc0 := 3) (pc' := 10) rfl (hb hby d14_3) rfl ((if0 _ _).trans (tlt ((lw_lt _ _).mpr hc3_25)).1) (by decide) (by decide) k) ?_
    show Go _ _ _ _ _ _ _ s₁ (mkF m 10 #[.val (.long ja), .second, .val (.long jb), .second] [])
    refine Go.step (fun _ k => XS.lloadN X0.here hx rfl (hb hby d14_10) rfl k) ?_
    show Go _ _ _ _ _ _ _ s₁ (mkF m 11 #[.val (.long ja), .second, .val (.long jb), .second] [(.long jb)])
    exact Go.retJ X0 hx hret hlk (hb hby d14_11) e0 (by decide) (by decide) ⟨(congrArg (fun z => some (Value.long z)) (if_pos hc3_25).symm), N0, rfl⟩
  · refine Go.step (fun _ k => XS.ifNo X0.here hx rfl (hb hby d14_3) rfl ((if0 _ _).trans (flt (mt (lw_lt _ _).mp hc3_25)).1) k) ?_
    show Go _ _ _ _ _ _ _ s₁ (mkF m 6 #[.val (.long ja), .second, .val (.long jb), .second] [])
    refine Go.step (fun _ k => XS.lloadN X0.here hx rfl (hb hby d14_6) rfl k) ?_
    show Go _ _ _ _ _ _ _ s₁ (mkF m 7 #[.val (.long ja), .second, .val (.long jb), .second] [(.long ja)])
    refine Go.step (fun _ k => XS.goto X0.here hx rfl (pc0 := 7) (pc' := 11) rfl (hb hby d14_7) (by decide) (by decide) k) ?_
    show Go _ _ _ _ _ _ _ s₁ (mkF m 11 #[.val (.long ja), .second, .val (.long jb), .second] [(.long ja)])
    exact Go.retJ X0 hx hret hlk (hb hby d14_11) e0 (by decide) (by decide) ⟨(congrArg (fun z => some (Value.long z)) (if_neg hc3_25).symm), N0, rfl⟩
theorem d15_0 : decode jdk_29_method_70_code 0 = .ok (.lload_n 0, 1) := by decide +kernel
theorem d15_1 : decode jdk_29_method_70_code 1 = .ok (.lload_n 2, 1) := by decide +kernel
theorem d15_2 : decode jdk_29_method_70_code 2 = .ok (.lcmp, 1) := by decide +kernel
theorem d15_3 : decode jdk_29_method_70_code 3 = .ok (.ifCond .gt 7, 3) := by decide +kernel
theorem d15_6 : decode jdk_29_method_70_code 6 = .ok (.lload_n 0, 1) := by decide +kernel
theorem d15_7 : decode jdk_29_method_70_code 7 = .ok (.goto 4, 3) := by decide +kernel
theorem d15_10 : decode jdk_29_method_70_code 10 = .ok (.lload_n 2, 1) := by decide +kernel
theorem d15_11 : decode jdk_29_method_70_code 11 = .ok (.lreturn, 1) := by decide +kernel
theorem ef_rmMin (m : MethodId) (ja : Int64) (jb : Int64) : entryFrame m #[(.long ja), (.long jb)] 4 = mkF m 0 #[.val (.long ja), .second, .val (.long jb), .second] [] := by first | (simp [entryFrame, mkF, argsToLocals, Value.category]; done) | rfl
def Q_rmMin (Z : State) (ja : Int64) (jb : Int64) (h0 : Heap) (n0 : Nat) (v : Option Value) (h : Heap) (L : List Loc) : Prop := (v = some (.long (own_min ja jb))) ∧ (Fr n0 L) ∧ (h = h0)
set_option maxRecDepth 65536 in
set_option maxHeartbeats 40000000 in
theorem rmMin (l : Launch) (Z : State) (a0 : Array Value) (hw : ∀ d ∈ tables_1, d.before a0 Z = true) (ws : List Jvm.Cond) (ja : Int64) (jb : Int64) (h0 : Heap) (n0 : Nat) (Z0 : n0 ≤ h0.size) :
    MetFree l (⟨"java/lang/Math", "min", "(JJ)J"⟩ : MethodName) (head1 (Jvm.Cond.code (⟨"java/lang/Math", "min", "(JJ)J"⟩ : MethodName) jdk_29_method_70_code 4 (some .long) :: ws) ({ frames := 0, cells := 0, slots := 0, locals := 0 } : Room)) (fun aA U => aA = #[(.long ja), (.long jb)] ∧ Z.Warmed39 U.vm ∧ U.heap = h0) (fun _ _ _ _ _ => True) (fun _ U o U' => ∃ v L, o = .returned v ∧ Q_rmMin Z ja jb h0 n0 v U'.heap L ∧ FrameEnd U o U' L ({ frames := 0, cells := 0, slots := 0, locals := 0 } : Room).cells ({ frames := 0, cells := 0, slots := 0, locals := 0 } : Room).slots) := by
  refine MetFree.of_bodySF (Jvm.Free.JP.mathPlain rfl (by decide +kernel)) hisR ?_
  intro p e s m args below meth c s₁ Bd hml0 hP hK
  obtain ⟨rfl, hZ, hh⟩ := hP
  have hx := Bd.exec
  have hby := Bd.bytes
  have hml : c.maxLocals = 4 := hml0
  have hown : s.vm.findClass "java/lang/Math" = some m.cls := findClass_of_methodNamed Bd.named
  have hnm := (name_of_methodNamed Bd.named Bd.method).1
  have hret := Bd.returns
  have hlk : meth.locks = false := BodyLoose.notSynchronized Bd
  have X0 : Stand p l e ({ frames := 0, cells := 0, slots := 0, locals := 0 } : Room) s m #[(.long ja), (.long jb)] below meth c s₁ [] 0 0 := Stand.of_body Bd
  have e0 : s₁.heap = h0 := by rw [← hh, Bd.state]; rfl
  have N0 := Fr.nil n0
  suffices hgo : Go p e below s ({ frames := 0, cells := 0, slots := 0, locals := 0 } : Room).cells ({ frames := 0, cells := 0, slots := 0, locals := 0 } : Room).slots (Q_rmMin Z ja jb h0 n0) s₁ (mkF m 0 #[.val (.long ja), .second, .val (.long jb), .second] []) from hgo.enter (ef_rmMin m ja jb)
  refine Go.step (fun _ k => XS.lloadN X0.here hx rfl (hb hby d15_0) rfl k) ?_
  show Go _ _ _ _ _ _ _ s₁ (mkF m 1 #[.val (.long ja), .second, .val (.long jb), .second] [(.long ja)])
  refine Go.step (fun _ k => XS.lloadN X0.here hx rfl (hb hby d15_1) rfl k) ?_
  show Go _ _ _ _ _ _ _ s₁ (mkF m 2 #[.val (.long ja), .second, .val (.long jb), .second] [(.long jb), (.long ja)])
  refine Go.step (fun _ k => XS.lcmp X0.here hx rfl (hb hby d15_2) rfl k) ?_
  show Go _ _ _ _ _ _ _ s₁ (mkF m 3 #[.val (.long ja), .second, .val (.long jb), .second] [(.int (lcmpW ja jb))])
  by_cases hc3_26 : jb < ja
  · refine Go.step (fun _ k => XS.ifYes X0.here hx rfl (pc0 := 3) (pc' := 10) rfl (hb hby d15_3) rfl ((if0 _ _).trans (tlt ((lw_gt _ _).mpr hc3_26)).2.2.1) (by decide) (by decide) k) ?_
    show Go _ _ _ _ _ _ _ s₁ (mkF m 10 #[.val (.long ja), .second, .val (.long jb), .second] [])
    refine Go.step (fun _ k => XS.lloadN X0.here hx rfl (hb hby d15_10) rfl k) ?_
    show Go _ _ _ _ _ _ _ s₁ (mkF m 11 #[.val (.long ja), .second, .val (.long jb), .second] [(.long jb)])
    exact Go.retJ X0 hx hret hlk (hb hby d15_11) e0 (by decide) (by decide) ⟨(congrArg (fun z => some (Value.long z)) (if_pos hc3_26).symm), N0, rfl⟩
  · refine Go.step (fun _ k => XS.ifNo X0.here hx rfl (hb hby d15_3) rfl ((if0 _ _).trans (flt (mt (lw_gt _ _).mp hc3_26)).2.2.1) k) ?_
    show Go _ _ _ _ _ _ _ s₁ (mkF m 6 #[.val (.long ja), .second, .val (.long jb), .second] [])
    refine Go.step (fun _ k => XS.lloadN X0.here hx rfl (hb hby d15_6) rfl k) ?_
    show Go _ _ _ _ _ _ _ s₁ (mkF m 7 #[.val (.long ja), .second, .val (.long jb), .second] [(.long ja)])
    refine Go.step (fun _ k => XS.goto X0.here hx rfl (pc0 := 7) (pc' := 11) rfl (hb hby d15_7) (by decide) (by decide) k) ?_
    show Go _ _ _ _ _ _ _ s₁ (mkF m 11 #[.val (.long ja), .second, .val (.long jb), .second] [(.long ja)])
    exact Go.retJ X0 hx hret hlk (hb hby d15_11) e0 (by decide) (by decide) ⟨(congrArg (fun z => some (Value.long z)) (if_neg hc3_26).symm), N0, rfl⟩
theorem d8_0 : decode jdk_65_method_121_code 0 = .ok (.iload_n 1, 1) := by decide +kernel
theorem d8_1 : decode jdk_65_method_121_code 1 = .ok (.aload_n 0, 1) := by decide +kernel
theorem d8_2 : decode jdk_65_method_121_code 2 = .ok (.arraylength, 1) := by decide +kernel
theorem d8_3 : decode jdk_65_method_121_code 3 = .ok (.if_icmp .ne 11, 3) := by decide +kernel
theorem d8_6 : decode jdk_65_method_121_code 6 = .ok (.aload_n 0, 1) := by decide +kernel
theorem d8_7 : decode jdk_65_method_121_code 7 = .ok (.invokevirtual 310, 3) := by decide +kernel
theorem d8_10 : decode jdk_65_method_121_code 10 = .ok (.checkcast 311, 3) := by decide +kernel
theorem d8_13 : decode jdk_65_method_121_code 13 = .ok (.areturn, 1) := by decide +kernel
theorem d8_14 : decode jdk_65_method_121_code 14 = .ok (.iload_n 1, 1) := by decide +kernel
theorem d8_15 : decode jdk_65_method_121_code 15 = .ok (.newarray .byte, 2) := by decide +kernel
theorem d8_17 : decode jdk_65_method_121_code 17 = .ok (.astore_n 2, 1) := by decide +kernel
theorem d8_18 : decode jdk_65_method_121_code 18 = .ok (.aload_n 0, 1) := by decide +kernel
theorem d8_19 : decode jdk_65_method_121_code 19 = .ok (.iconst 0, 1) := by decide +kernel
theorem d8_20 : decode jdk_65_method_121_code 20 = .ok (.aload_n 2, 1) := by decide +kernel
theorem d8_21 : decode jdk_65_method_121_code 21 = .ok (.iconst 0, 1) := by decide +kernel
theorem d8_22 : decode jdk_65_method_121_code 22 = .ok (.aload_n 0, 1) := by decide +kernel
theorem d8_23 : decode jdk_65_method_121_code 23 = .ok (.arraylength, 1) := by decide +kernel
theorem d8_24 : decode jdk_65_method_121_code 24 = .ok (.iload_n 1, 1) := by decide +kernel
theorem d8_25 : decode jdk_65_method_121_code 25 = .ok (.invokestatic 304, 3) := by decide +kernel
theorem d8_28 : decode jdk_65_method_121_code 28 = .ok (.invokestatic 150, 3) := by decide +kernel
theorem d8_31 : decode jdk_65_method_121_code 31 = .ok (.aload_n 2, 1) := by decide +kernel
theorem d8_32 : decode jdk_65_method_121_code 32 = .ok (.areturn, 1) := by decide +kernel
theorem pd__II_I : parseMethodDescriptor "(II)I" = some ⟨[.int, .int], some .int⟩ := by decide +kernel
theorem pd__Ljava_lang_Object_ILjava_lang_Object_II_V : parseMethodDescriptor "(Ljava/lang/Object;ILjava/lang/Object;II)V" = some ⟨[(.object "java/lang/Object"), .int, (.object "java/lang/Object"), .int, .int], none⟩ := by decide +kernel
theorem pn_java_util_Arrays : plainName "java/util/Arrays" = true := by first | (simp [plainName, overriddenIn]; done) | decide +kernel
theorem ef_rmCo (m : MethodId) (ab : Addr) (nl : Int32) : entryFrame m #[(.ref ab), (.int nl)] 3 = mkF m 0 #[.val (.ref ab), .val (.int nl), .unset] [] := by first | (simp [entryFrame, mkF, argsToLocals, Value.category]; done) | rfl
def Q_rmCo (Z : State) (ab : Addr) (nl : Int32) (kb : ClassId) (nN : Int32) (vs : List Value) (h0 : Heap) (n0 : Nat) (v : Option Value) (h : Heap) (L : List Loc) : Prop := ∃ ar : Addr, ∃ kr : ClassId, ∃ vr : List Value, (v = some (.ref ar)) ∧ (Fr n0 L) ∧ (Keep h0 h []) ∧ (h0.size ≤ ar) ∧ (Arv Z h ar kr .byte nl vr (.int (0 : Int32))) ∧ (vr.length = nl.toNatClampNeg) ∧ (∀ i, i < (own_imin nN nl).toNatClampNeg → vr.getD i (.int (0 : Int32)) = vs.getD i (.int (0 : Int32)))
set_option maxRecDepth 65536 in
set_option maxHeartbeats 40000000 in
theorem rmCo (l : Launch) (Z : State) (a0 : Array Value) (hw : ∀ d ∈ tables_1, d.before a0 Z = true) (ws : List Jvm.Cond) (ab : Addr) (nl : Int32) (kb : ClassId) (nN : Int32) (vs : List Value) (h0 : Heap) (n0 : Nat) (Z0 : n0 ≤ h0.size) (V0 : Arv Z h0 ab kb .byte nN vs (.int (0 : Int32))) (h0_ : ¬ (nl < (0 : Int32))) (h1_ : ¬ (nl = nN)) (h2_ : ¬ ((16 : Int32) < nl)) (hN : ¬ (nN < (0 : Int32))) (hlen : vs.length = nN.toNatClampNeg) :
    MetFree l (⟨"java/util/Arrays", "copyOf", "([BI)[B"⟩ : MethodName) (head1 (Jvm.Cond.code (⟨"java/util/Arrays", "copyOf", "([BI)[B"⟩ : MethodName) jdk_65_method_121_code 3 (some (.array .byte)) :: ws) ({ frames := 1, cells := 1, slots := 16, locals := 24 } : Room)) (fun aA U => aA = #[(.ref ab), (.int nl)] ∧ Z.Warmed39 U.vm ∧ U.heap = h0) (fun _ _ _ _ _ => True) (fun _ U o U' => ∃ v L, o = .returned v ∧ Q_rmCo Z ab nl kb nN vs h0 n0 v U'.heap L ∧ FrameEnd U o U' L ({ frames := 1, cells := 1, slots := 16, locals := 24 } : Room).cells ({ frames := 1, cells := 1, slots := 16, locals := 24 } : Room).slots) := by
  refine MetFree.of_bodySF (plainFor_of_name pn_java_util_Arrays) hisR ?_
  intro p e s m args below meth c s₁ Bd hml0 hP hK
  obtain ⟨rfl, hZ, hh⟩ := hP
  have hx := Bd.exec
  have hby := Bd.bytes
  have hml : c.maxLocals = 3 := hml0
  have hown : s.vm.findClass "java/util/Arrays" = some m.cls := findClass_of_methodNamed Bd.named
  have hnm := (name_of_methodNamed Bd.named Bd.method).1
  have hret := Bd.returns
  have hlk : meth.locks = false := BodyLoose.notSynchronized Bd
  have X0 : Stand p l e ({ frames := 1, cells := 1, slots := 16, locals := 24 } : Room) s m #[(.ref ab), (.int nl)] below meth c s₁ [] 0 0 := Stand.of_body Bd
  have e0 : s₁.heap = h0 := by rw [← hh, Bd.state]; rfl
  have N0 := Fr.nil n0
  suffices hgo : Go p e below s ({ frames := 1, cells := 1, slots := 16, locals := 24 } : Room).cells ({ frames := 1, cells := 1, slots := 16, locals := 24 } : Room).slots (Q_rmCo Z ab nl kb nN vs h0 n0) s₁ (mkF m 0 #[.val (.ref ab), .val (.int nl), .unset] []) from hgo.enter (ef_rmCo m ab nl)
  refine Go.step (fun _ k => XS.iloadN X0.here hx rfl (hb hby d8_0) rfl k) ?_
  show Go _ _ _ _ _ _ _ s₁ (mkF m 1 #[.val (.ref ab), .val (.int nl), .unset] [(.int nl)])
  refine Go.step (fun _ k => XS.aloadN X0.here hx rfl (hb hby d8_1) rfl rfl k) ?_
  show Go _ _ _ _ _ _ _ s₁ (mkF m 2 #[.val (.ref ab), .val (.int nl), .unset] [(.ref ab), (.int nl)])
  obtain ⟨cl27, Ar27, -, S27, M27, -, -⟩ := id (V0)
  have al27 := X0.arraylength hx (by rw [e0]; exact Ar27.1) (State.isArrayOf_alike hZ.alike Ar27.2.1) (g := (mkF m 2 #[.val (.ref ab), .val (.int nl), .unset] [(.ref ab), (.int nl)])) rfl rfl (hb hby d8_2)
  rw [len_of S27 M27] at al27
  refine Go.step al27 ?_
  show Go _ _ _ _ _ _ _ s₁ (mkF m 3 #[.val (.ref ab), .val (.int nl), .unset] [(.int nN), (.int nl)])
  have hc3_28 : ¬ (nl = nN) := h1_
  refine Go.step (fun _ k => XS.icmpYes X0.here hx rfl (pc0 := 3) (pc' := 14) rfl (hb hby d8_3) rfl (feq hc3_28).2 (by decide) (by decide) k) ?_
  show Go _ _ _ _ _ _ _ s₁ (mkF m 14 #[.val (.ref ab), .val (.int nl), .unset] [])
  refine Go.step (fun _ k => XS.iloadN X0.here hx rfl (hb hby d8_14) rfl k) ?_
  show Go _ _ _ _ _ _ _ s₁ (mkF m 15 #[.val (.ref ab), .val (.int nl), .unset] [(.int nl)])
  obtain ⟨T29, h29, k29, X29, e29, E29, A29, st29⟩ := newP X0 hx hZ (hw _ (List.mem_of_getElem? (i := 0) rfl)) e0 (g := (mkF m 15 #[.val (.ref ab), .val (.int nl), .unset] [(.int nl)])) rfl (hb hby d8_15) rfl h0_ (cap := 16) (by have q := own_tle h2_; exact Nat.le_trans q (by decide)) (by decide) (by decide) (by decide)
  obtain ⟨b29, g29⟩ : ∃ z, z = h0.size := ⟨_, rfl⟩
  rw [← g29] at A29 st29
  refine Go.step st29 ?_
  have g_b29 : n0 ≤ b29 := Nat.le_trans Z0 (Nat.le_of_eq g29.symm)
  have sz_b29 : h0.size ≤ b29 := Nat.le_trans (Keep.refl h0 []).1 (Nat.le_of_eq g29.symm)
  have ne_ab_b29 : ab ≠ b29 := Nat.ne_of_lt (Nat.lt_of_lt_of_le V0.lt (Nat.le_of_eq g29.symm))
  have Z29 : n0 ≤ h29.size := Nat.le_trans Z0 E29.1
  have KK29 : Keep h0 h29 [] := (Keep.refl h0 []).ext E29
  have V29 : Arv Z h29 b29 k29 .byte nl [] (.int (0 : Int32)) := Arv.new A29 h0_
  show Go _ _ _ _ _ _ _ T29 (mkF m 17 #[.val (.ref ab), .val (.int nl), .unset] [(.ref b29)])
  have V30 : Arv Z h29 b29 k29 .byte nl (List.replicate nl.toNatClampNeg (.int (0 : Int32))) (.int (0 : Int32)) := (V29).pad (pad_rep [] (.int (0 : Int32)) nl.toNatClampNeg)
  refine Go.step (fun _ k => XS.astoreN X29.here hx rfl (hb hby d8_17) rfl rfl (l' := #[.val (.ref ab), .val (.int nl), .val (.ref b29)]) rfl k) ?_
  show Go _ _ _ _ _ _ _ T29 (mkF m 18 #[.val (.ref ab), .val (.int nl), .val (.ref b29)] [])
  refine Go.step (fun _ k => XS.aloadN X29.here hx rfl (hb hby d8_18) rfl rfl k) ?_
  show Go _ _ _ _ _ _ _ T29 (mkF m 19 #[.val (.ref ab), .val (.int nl), .val (.ref b29)] [(.ref ab)])
  refine Go.step (fun _ k => XS.iconst X29.here hx rfl (hb hby d8_19) k) ?_
  show Go _ _ _ _ _ _ _ T29 (mkF m 20 #[.val (.ref ab), .val (.int nl), .val (.ref b29)] [(.int (0 : Int32)), (.ref ab)])
  refine Go.step (fun _ k => XS.aloadN X29.here hx rfl (hb hby d8_20) rfl rfl k) ?_
  show Go _ _ _ _ _ _ _ T29 (mkF m 21 #[.val (.ref ab), .val (.int nl), .val (.ref b29)] [(.ref b29), (.int (0 : Int32)), (.ref ab)])
  refine Go.step (fun _ k => XS.iconst X29.here hx rfl (hb hby d8_21) k) ?_
  show Go _ _ _ _ _ _ _ T29 (mkF m 22 #[.val (.ref ab), .val (.int nl), .val (.ref b29)] [(.int (0 : Int32)), (.ref b29), (.int (0 : Int32)), (.ref ab)])
  refine Go.step (fun _ k => XS.aloadN X29.here hx rfl (hb hby d8_22) rfl rfl k) ?_
  show Go _ _ _ _ _ _ _ T29 (mkF m 23 #[.val (.ref ab), .val (.int nl), .val (.ref b29)] [(.ref ab), (.int (0 : Int32)), (.ref b29), (.int (0 : Int32)), (.ref ab)])
  have f31 : Arv Z h29 ab kb .byte nN vs (.int (0 : Int32)) := (V0.ext E29)
  obtain ⟨cl32, Ar32, -, S32, M32, -, -⟩ := id (f31)
  have al32 := X29.arraylength hx (by rw [e29]; exact Ar32.1) (State.isArrayOf_alike hZ.alike Ar32.2.1) (g := (mkF m 23 #[.val (.ref ab), .val (.int nl), .val (.ref b29)] [(.ref ab), (.int (0 : Int32)), (.ref b29), (.int (0 : Int32)), (.ref ab)])) rfl rfl (hb hby d8_23)
  rw [len_of S32 M32] at al32
  refine Go.step al32 ?_
  show Go _ _ _ _ _ _ _ T29 (mkF m 24 #[.val (.ref ab), .val (.int nl), .val (.ref b29)] [(.int nN), (.int (0 : Int32)), (.ref b29), (.int (0 : Int32)), (.ref ab)])
  refine Go.step (fun _ k => XS.iloadN X29.here hx rfl (hb hby d8_24) rfl k) ?_
  show Go _ _ _ _ _ _ _ T29 (mkF m 25 #[.val (.ref ab), .val (.int nl), .val (.ref b29)] [(.int nl), (.int nN), (.int (0 : Int32)), (.ref b29), (.int (0 : Int32)), (.ref ab)])
  obtain ⟨_, _, ⟨T33, L33, k33, n33⟩, -, X33, ⟨Lc33, hQ33, l33, y33, z33⟩, st33⟩ := Jvm.LawKit.callS X29 hx (y := (⟨"java/lang/Math", "min", "(II)I"⟩ : MethodName)) hown (mvT hZ (hw _ (List.mem_of_getElem? (i := 42) rfl))) (mvT hZ (hw _ (List.mem_of_getElem? (i := 43) rfl))) (mvT hZ (hw _ (List.mem_of_getElem? (i := 44) rfl))) (mvT hZ (hw _ (List.mem_of_getElem? (i := 45) rfl))) (by decide) (backOf (W := 4) (rmMi l Z a0 hw [] nN nl h29 n0 Z29 ) hZ (hw _ (List.mem_of_getElem? (i := 45) rfl)) (hw _ (List.mem_of_getElem? (i := 44) rfl)) (by decide) (by decide)) (g := (mkF m 25 #[.val (.ref ab), .val (.int nl), .val (.ref b29)] [(.int nl), (.int nN), (.int (0 : Int32)), (.ref b29), (.int (0 : Int32)), (.ref ab)])) rfl (by rw [hml]; rfl) (argsL := [(.int nN), (.int nl)]) (rest := [(.int (0 : Int32)), (.ref b29), (.int (0 : Int32)), (.ref ab)]) (lenOf pd__II_I rfl) rfl (by show 2 * 0 + _ ≤ _; exact Nat.le_of_eq rfl) (hb hby d8_25) (fun _ _ => ⟨rfl, e29, (by decide : 1 + 0 ≤ _), (by decide : 16 + 0 ≤ _)⟩)
  dsimp only [Pt.U, Pt.locs, Pt.cells, Pt.slots] at X33 l33 y33 z33 st33 hQ33
  subst l33 y33 z33
  obtain ⟨h33, e33⟩ : ∃ h, T33.heap = h := ⟨_, rfl⟩
  rw [e33] at hQ33
  obtain ⟨rfl, Nq33, hs33⟩ := hQ33
  have N33 := Fr.app N0 Nq33
  rw [hs33] at e33
  refine Go.step st33 ?_
  show Go _ _ _ _ _ _ _ T33 (mkF m 28 #[.val (.ref ab), .val (.int nl), .val (.ref b29)] [(.int (own_imin nN nl)), (.int (0 : Int32)), (.ref b29), (.int (0 : Int32)), (.ref ab)])
  have hm0 : ¬ (own_imin nN nl < 0) := by unfold own_imin; split <;> assumption
  have hm1 : ¬ (nN < own_imin nN nl) := by unfold own_imin; split <;> (rename_i q; simp only [Int32.lt_iff_toInt_lt] at q ⊢; omega)
  have hm2 : ¬ (nl < own_imin nN nl) := by unfold own_imin; split <;> (rename_i q; simp only [Int32.lt_iff_toInt_lt] at q ⊢; omega)
  obtain ⟨T34, h34, L34, X34, e34, N34, Kc34, V34, st34⟩ := cpA X33 hx hZ hown (hw _ (List.mem_of_getElem? (i := 46) rfl)) (hw _ (List.mem_of_getElem? (i := 49) rfl)) (hw _ (List.mem_of_getElem? (i := 47) rfl)) (hw _ (List.mem_of_getElem? (i := 48) rfl)) e33 (sp := (0 : Int32)) (dp := (0 : Int32)) (nn := (own_imin nN nl)) f31 V30 (Or.inl ⟨rfl, rfl⟩) (by decide) (by decide) hm0 (by show 0 + _ ≤ _; rw [Nat.zero_add]; exact own_tle hm1) (by show 0 + _ ≤ _; rw [Nat.zero_add]; exact own_tle hm2) rfl (by show 0 + _ ≤ _; rw [Nat.zero_add, List.length_replicate]; exact own_tle hm2) N33 g_b29 (g := (mkF m 28 #[.val (.ref ab), .val (.int nl), .val (.ref b29)] [(.int (own_imin nN nl)), (.int (0 : Int32)), (.ref b29), (.int (0 : Int32)), (.ref ab)])) rfl (by rw [hml]; rfl) rfl (hb hby d8_28) (by decide) (W := 0) (by show 2 * 0 + _ ≤ _; exact Nat.le_of_eq rfl) (by decide)
  refine Go.step st34 ?_
  have Z34 : n0 ≤ h34.size := Nat.le_trans Z29 Kc34.1
  have KK34 : Keep h0 h34 [] := KK29.trans Kc34 (allS (Or.inr sz_b29) all0)
  have Vc34 : Arv Z h34 b29 k29 .byte nl (own_cpl vs (own_imin nN nl).toNatClampNeg nl.toNatClampNeg) (.int (0 : Int32)) := V34
  show Go _ _ _ _ _ _ _ T34 (mkF m 31 #[.val (.ref ab), .val (.int nl), .val (.ref b29)] [])
  refine Go.step (fun _ k => XS.aloadN X34.here hx rfl (hb hby d8_31) rfl rfl k) ?_
  show Go _ _ _ _ _ _ _ T34 (mkF m 32 #[.val (.ref ab), .val (.int nl), .val (.ref b29)] [(.ref b29)])
  exact Go.retA X34 hx hret hlk rfl rfl (hb hby d8_32) e34 (by decide) (by decide) ⟨b29, k29, (own_cpl vs (own_imin nN nl).toNatClampNeg nl.toNatClampNeg), rfl, N34, KK34, sz_b29, Vc34, (own_cpl_len (own_tle hm2)), (fun i q => own_cpl_at q)⟩
theorem d7_0 : decode prog_38_method_2_code 0 = .ok (.aload_n 0, 1) := by decide +kernel
theorem d7_1 : decode prog_38_method_2_code 1 = .ok (.getfield 11, 3) := by decide +kernel
theorem d7_4 : decode prog_38_method_2_code 4 = .ok (.aload_n 0, 1) := by decide +kernel
theorem d7_5 : decode prog_38_method_2_code 5 = .ok (.getfield 15, 3) := by decide +kernel
theorem d7_8 : decode prog_38_method_2_code 8 = .ok (.invokestatic 19, 3) := by decide +kernel
theorem d7_11 : decode prog_38_method_2_code 11 = .ok (.areturn, 1) := by decide +kernel
theorem pd___BI__B : parseMethodDescriptor "([BI)[B" = some ⟨[(.array .byte), .int], some (.array .byte)⟩ := by decide +kernel
theorem ef_rmTb (m : MethodId) (ao : Addr) : entryFrame m #[(.ref ao)] 1 = mkF m 0 #[.val (.ref ao)] [] := by first | (simp [entryFrame, mkF, argsToLocals, Value.category]; done) | rfl
def Q_rmTb (Z : State) (ao : Addr) (ab : Addr) (kb : ClassId) (nN : Int32) (sz : Int32) (vs : List Value) (h0 : Heap) (n0 : Nat) (v : Option Value) (h : Heap) (L : List Loc) : Prop := ∃ ar : Addr, ∃ kr : ClassId, ∃ vr : List Value, (v = some (.ref ar)) ∧ (Fr n0 L) ∧ (Keep h0 h []) ∧ (h0.size ≤ ar) ∧ (Arv Z h ar kr .byte sz vr (.int (0 : Int32))) ∧ (vr.length = sz.toNatClampNeg) ∧ (∀ i, i < sz.toNatClampNeg → vr.getD i (.int (0 : Int32)) = vs.getD i (.int (0 : Int32)))
set_option maxRecDepth 65536 in
set_option maxHeartbeats 40000000 in
theorem rmTb (l : Launch) (Z : State) (a0 : Array Value) (hw : ∀ d ∈ tables_1, d.before a0 Z = true) (ws : List Jvm.Cond) (ao : Addr) (ab : Addr) (kb : ClassId) (nN : Int32) (sz : Int32) (vs : List Value) (h0 : Heap) (n0 : Nat) (Z0 : n0 ≤ h0.size) (E0 : Exa Z h0 ao "com/example/stitchwire/stitchwire/Output") (Fb : Fld Z h0 ao "com/example/stitchwire/stitchwire/Output" "buffer" "[B" (.ref ab)) (Fs : Fld Z h0 ao "com/example/stitchwire/stitchwire/Output" "size" "I" (.int sz)) (V0 : Arv Z h0 ab kb .byte nN vs (.int (0 : Int32))) (hlen : vs.length = nN.toNatClampNeg) (hs0 : ¬ (sz < (0 : Int32))) (hs1 : sz < nN) (hs2 : ¬ ((16 : Int32) < sz)) :
    MetFree l (⟨"com/example/stitchwire/stitchwire/Output", "toByteArray", "()[B"⟩ : MethodName) (head1 (Jvm.Cond.code (⟨"com/example/stitchwire/stitchwire/Output", "toByteArray", "()[B"⟩ : MethodName) prog_38_method_2_code 1 (some (.array .byte)) :: ws) ({ frames := 2, cells := 1, slots := 16, locals := 38 } : Room)) (fun aA U => aA = #[(.ref ao)] ∧ Z.Warmed39 U.vm ∧ U.heap = h0) (fun _ _ _ _ _ => True) (fun _ U o U' => ∃ v L, o = .returned v ∧ Q_rmTb Z ao ab kb nN sz vs h0 n0 v U'.heap L ∧ FrameEnd U o U' L ({ frames := 2, cells := 1, slots := 16, locals := 38 } : Room).cells ({ frames := 2, cells := 1, slots := 16, locals := 38 } : Room).slots) := by
  refine MetFree.of_bodySF (plainFor_of_name pn_com_example_stitchwire_stitchwire_Output) hisR ?_
  intro p e s m args below meth c s₁ Bd hml0 hP hK
  obtain ⟨rfl, hZ, hh⟩ := hP
  have hx := Bd.exec
  have hby := Bd.bytes
  have hml : c.maxLocals = 1 := hml0
  have hown : s.vm.findClass "com/example/stitchwire/stitchwire/Output" = some m.cls := findClass_of_methodNamed Bd.named
  have hnm := (name_of_methodNamed Bd.named Bd.method).1
  have hret := Bd.returns
  have hlk : meth.locks = false := BodyLoose.notSynchronized Bd
  have X0 : Stand p l e ({ frames := 2, cells := 1, slots := 16, locals := 38 } : Room) s m #[(.ref ao)] below meth c s₁ [] 0 0 := Stand.of_body Bd
  have e0 : s₁.heap = h0 := by rw [← hh, Bd.state]; rfl
  have N0 := Fr.nil n0
  suffices hgo : Go p e below s ({ frames := 2, cells := 1, slots := 16, locals := 38 } : Room).cells ({ frames := 2, cells := 1, slots := 16, locals := 38 } : Room).slots (Q_rmTb Z ao ab kb nN sz vs h0 n0) s₁ (mkF m 0 #[.val (.ref ao)] []) from hgo.enter (ef_rmTb m ao)
  refine Go.step (fun _ k => XS.aloadN X0.here hx rfl (hb hby d7_0) rfl rfl k) ?_
  show Go _ _ _ _ _ _ _ s₁ (mkF m 1 #[.val (.ref ao)] [(.ref ao)])
  obtain ⟨T35, X35, e35, st35⟩ := getF X0 hx hZ hown (host := "") (Or.inl (hw _ (List.mem_of_getElem? (i := 10) rfl))) Via.refl e0 Fb (g := (mkF m 1 #[.val (.ref ao)] [(.ref ao)])) rfl rfl (hb hby d7_1)
  refine Go.step st35 ?_
  show Go _ _ _ _ _ _ _ T35 (mkF m 4 #[.val (.ref ao)] [(.ref ab)])
  refine Go.step (fun _ k => XS.aloadN X35.here hx rfl (hb hby d7_4) rfl rfl k) ?_
  show Go _ _ _ _ _ _ _ T35 (mkF m 5 #[.val (.ref ao)] [(.ref ao), (.ref ab)])
  obtain ⟨T36, X36, e36, st36⟩ := getF X35 hx hZ hown (host := "") (Or.inl (hw _ (List.mem_of_getElem? (i := 21) rfl))) Via.refl e35 Fs (g := (mkF m 5 #[.val (.ref ao)] [(.ref ao), (.ref ab)])) rfl rfl (hb hby d7_5)
  refine Go.step st36 ?_
  show Go _ _ _ _ _ _ _ T36 (mkF m 8 #[.val (.ref ao)] [(.int sz), (.ref ab)])
  obtain ⟨_, _, ⟨T37, L37, k37, n37⟩, -, X37, ⟨Lc37, hQ37, l37, y37, z37⟩, st37⟩ := Jvm.LawKit.callS X36 hx (y := (⟨"java/util/Arrays", "copyOf", "([BI)[B"⟩ : MethodName)) hown (mvT hZ (hw _ (List.mem_of_getElem? (i := 38) rfl))) (mvT hZ (hw _ (List.mem_of_getElem? (i := 39) rfl))) (mvT hZ (hw _ (List.mem_of_getElem? (i := 40) rfl))) (mvT hZ (hw _ (List.mem_of_getElem? (i := 41) rfl))) (by decide) (backOf (W := 0) (rmCo l Z a0 hw [] ab sz kb nN vs h0 n0 Z0 V0 hs0 (fun q => by rw [q] at hs1; rw [Int32.lt_iff_toInt_lt] at hs1; omega) hs2 (by simp only [Int32.lt_iff_toInt_lt] at hs0 hs1 ⊢; have : (0 : Int32).toInt = 0 := rfl; omega) hlen) hZ (hw _ (List.mem_of_getElem? (i := 41) rfl)) (hw _ (List.mem_of_getElem? (i := 40) rfl)) (by decide) (by decide)) (g := (mkF m 8 #[.val (.ref ao)] [(.int sz), (.ref ab)])) rfl (by rw [hml]; rfl) (argsL := [(.ref ab), (.int sz)]) (rest := []) (lenOf pd___BI__B rfl) rfl (by show 2 * 0 + _ ≤ _; exact Nat.le_of_eq rfl) (hb hby d7_8) (fun _ _ => ⟨rfl, e36, (by decide : 0 + 1 ≤ _), (by decide : 0 + 16 ≤ _)⟩)
  dsimp only [Pt.U, Pt.locs, Pt.cells, Pt.slots] at X37 l37 y37 z37 st37 hQ37
  subst l37 y37 z37
  obtain ⟨h37, e37⟩ : ∃ h, T37.heap = h := ⟨_, rfl⟩
  rw [e37] at hQ37
  obtain ⟨ar_37, kr_37, vr_37, rfl, Nq37, Kq37, sz__37, V1_37, pl_37, pa_37⟩ := hQ37
  have N37 := Fr.app N0 Nq37
  have Z37 : n0 ≤ h37.size := Nat.le_trans Z0 Kq37.1
  have KK37 : Keep h0 h37 [] := (Keep.refl h0 []).trans Kq37 all0
  have g_ar_37 : n0 ≤ ar_37 := Nat.le_trans Z0 sz__37
  have sz_ar_37 : h0.size ≤ ar_37 := Nat.le_trans (Keep.refl h0 []).1 sz__37
  have ne_ab_ar_37 : ab ≠ ar_37 := Nat.ne_of_lt (Nat.lt_of_lt_of_le V0.lt sz__37)
  have ne_ao_ar_37 : ao ≠ ar_37 := Nat.ne_of_lt (Nat.lt_of_lt_of_le E0.lt sz__37)
  refine Go.step st37 ?_
  show Go _ _ _ _ _ _ _ T37 (mkF m 11 #[.val (.ref ao)] [(.ref ar_37)])
  exact Go.retA X37 hx hret hlk rfl rfl (hb hby d7_11) e37 (by decide) (by decide) ⟨ar_37, kr_37, vr_37, rfl, N37, KK37, sz_ar_37, V1_37, pl_37, (fun i q => pa_37 i (by rw [show own_imin nN sz = sz from if_pos hs1]; exact q))⟩
theorem ef_rmCg (m : MethodId) (ab : Addr) (nl : Int32) : entryFrame m #[(.ref ab), (.int nl)] 3 = mkF m 0 #[.val (.ref ab), .val (.int nl), .unset] [] := by first | (simp [entryFrame, mkF, argsToLocals, Value.category]; done) | rfl
def Q_rmCg (Z : State) (ab : Addr) (nl : Int32) (kb : ClassId) (nN : Int32) (vs : List Value) (h0 : Heap) (n0 : Nat) (v : Option Value) (h : Heap) (L : List Loc) : Prop := ∃ ar : Addr, ∃ kr : ClassId, ∃ vr : List Value, (v = some (.ref ar)) ∧ (Fr n0 L) ∧ (Keep h0 h []) ∧ (h0.size ≤ ar) ∧ (Arv Z h ar kr .byte nl vr (.int (0 : Int32))) ∧ (vr.length = nl.toNatClampNeg) ∧ (∀ i, i < (own_imin nN nl).toNatClampNeg → vr.getD i (.int (0 : Int32)) = vs.getD i (.int (0 : Int32)))
set_option maxRecDepth 65536 in
set_option maxHeartbeats 40000000 in
theorem rmCg (l : Launch) (Z : State) (a0 : Array Value) (hw : ∀ d ∈ tables_1, d.before a0 Z = true) (ws : List Jvm.Cond) (ab : Addr) (nl : Int32) (kb : ClassId) (nN : Int32) (vs : List Value) (h0 : Heap) (n0 : Nat) (Z0 : n0 ≤ h0.size) (V0 : Arv Z h0 ab kb .byte nN vs (.int (0 : Int32))) (h0_ : ¬ (nl < (0 : Int32))) (h1_ : ¬ (nl = nN)) (h2_ : ¬ ((128 : Int32) < nl)) (hN : ¬ (nN < (0 : Int32))) (hlen : vs.length = nN.toNatClampNeg) :
    MetFree l (⟨"java/util/Arrays", "copyOf", "([BI)[B"⟩ : MethodName) (head1 (Jvm.Cond.code (⟨"java/util/Arrays", "copyOf", "([BI)[B"⟩ : MethodName) jdk_65_method_121_code 3 (some (.array .byte)) :: ws) ({ frames := 1, cells := 1, slots := 128, locals := 24 } : Room)) (fun aA U => aA = #[(.ref ab), (.int nl)] ∧ Z.Warmed39 U.vm ∧ U.heap = h0) (fun _ _ _ _ _ => True) (fun _ U o U' => ∃ v L, o = .returned v ∧ Q_rmCg Z ab nl kb nN vs h0 n0 v U'.heap L ∧ FrameEnd U o U' L ({ frames := 1, cells := 1, slots := 128, locals := 24 } : Room).cells ({ frames := 1, cells := 1, slots := 128, locals := 24 } : Room).slots) := by
  refine MetFree.of_bodySF (plainFor_of_name pn_java_util_Arrays) hisR ?_
  intro p e s m args below meth c s₁ Bd hml0 hP hK
  obtain ⟨rfl, hZ, hh⟩ := hP
  have hx := Bd.exec
  have hby := Bd.bytes
  have hml : c.maxLocals = 3 := hml0
  have hown : s.vm.findClass "java/util/Arrays" = some m.cls := findClass_of_methodNamed Bd.named
  have hnm := (name_of_methodNamed Bd.named Bd.method).1
  have hret := Bd.returns
  have hlk : meth.locks = false := BodyLoose.notSynchronized Bd
  have X0 : Stand p l e ({ frames := 1, cells := 1, slots := 128, locals := 24 } : Room) s m #[(.ref ab), (.int nl)] below meth c s₁ [] 0 0 := Stand.of_body Bd
  have e0 : s₁.heap = h0 := by rw [← hh, Bd.state]; rfl
  have N0 := Fr.nil n0
  suffices hgo : Go p e below s ({ frames := 1, cells := 1, slots := 128, locals := 24 } : Room).cells ({ frames := 1, cells := 1, slots := 128, locals := 24 } : Room).slots (Q_rmCg Z ab nl kb nN vs h0 n0) s₁ (mkF m 0 #[.val (.ref ab), .val (.int nl), .unset] []) from hgo.enter (ef_rmCg m ab nl)
  refine Go.step (fun _ k => XS.iloadN X0.here hx rfl (hb hby d8_0) rfl k) ?_
  show Go _ _ _ _ _ _ _ s₁ (mkF m 1 #[.val (.ref ab), .val (.int nl), .unset] [(.int nl)])
  refine Go.step (fun _ k => XS.aloadN X0.here hx rfl (hb hby d8_1) rfl rfl k) ?_
  show Go _ _ _ _ _ _ _ s₁ (mkF m 2 #[.val (.ref ab), .val (.int nl), .unset] [(.ref ab), (.int nl)])
  obtain ⟨cl38, Ar38, -, S38, M38, -, -⟩ := id (V0)
  have al38 := X0.arraylength hx (by rw [e0]; exact Ar38.1) (State.isArrayOf_alike hZ.alike Ar38.2.1) (g := (mkF m 2 #[.val (.ref ab), .val (.int nl), .unset] [(.ref ab), (.int nl)])) rfl rfl (hb hby d8_2)
  rw [len_of S38 M38] at al38
  refine Go.step al38 ?_
  show Go _ _ _ _ _ _ _ s₁ (mkF m 3 #[.val (.ref ab), .val (.int nl), .unset] [(.int nN), (.int nl)])
  have hc3_39 : ¬ (nl = nN) := h1_
  refine Go.step (fun _ k => XS.icmpYes X0.here hx rfl (pc0 := 3) (pc' := 14) rfl (hb hby d8_3) rfl (feq hc3_39).2 (by decide) (by decide) k) ?_
  show Go _ _ _ _ _ _ _ s₁ (mkF m 14 #[.val (.ref ab), .val (.int nl), .unset] [])
  refine Go.step (fun _ k => XS.iloadN X0.here hx rfl (hb hby d8_14) rfl k) ?_
  show Go _ _ _ _ _ _ _ s₁ (mkF m 15 #[.val (.ref ab), .val (.int nl), .unset] [(.int nl)])
  obtain ⟨T40, h40, k40, X40, e40, E40, A40, st40⟩ := newP X0 hx hZ (hw _ (List.mem_of_getElem? (i := 0) rfl)) e0 (g := (mkF m 15 #[.val (.ref ab), .val (.int nl), .unset] [(.int nl)])) rfl (hb hby d8_15) rfl h0_ (cap := 128) (by have q := own_tle h2_; exact Nat.le_trans q (by decide)) (by decide) (by decide) (by decide)
  obtain ⟨b40, g40⟩ : ∃ z, z = h0.size := ⟨_, rfl⟩
  rw [← g40] at A40 st40
  refine Go.step st40 ?_
  have g_b40 : n0 ≤ b40 := Nat.le_trans Z0 (Nat.le_of_eq g40.symm)
  have sz_b40 : h0.size ≤ b40 := Nat.le_trans (Keep.refl h0 []).1 (Nat.le_of_eq g40.symm)
  have ne_ab_b40 : ab ≠ b40 := Nat.ne_of_lt (Nat.lt_of_lt_of_le V0.lt (Nat.le_of_eq g40.symm))
  have Z40 : n0 ≤ h40.size := Nat.le_trans Z0 E40.1
  have KK40 : Keep h0 h40 [] := (Keep.refl h0 []).ext E40
  have V40 : Arv Z h40 b40 k40 .byte nl [] (.int (0 : Int32)) := Arv.new A40 h0_
  show Go _ _ _ _ _ _ _ T40 (mkF m 17 #[.val (.ref ab), .val (.int nl), .unset] [(.ref b40)])
  have V41 : Arv Z h40 b40 k40 .byte nl (List.replicate nl.toNatClampNeg (.int (0 : Int32))) (.int (0 : Int32)) := (V40).pad (pad_rep [] (.int (0 : Int32)) nl.toNatClampNeg)
  refine Go.step (fun _ k => XS.astoreN X40.here hx rfl (hb hby d8_17) rfl rfl (l' := #[.val (.ref ab), .val (.int nl), .val (.ref b40)]) rfl k) ?_
  show Go _ _ _ _ _ _ _ T40 (mkF m 18 #[.val (.ref ab), .val (.int nl), .val (.ref b40)] [])
  refine Go.step (fun _ k => XS.aloadN X40.here hx rfl (hb hby d8_18) rfl rfl k) ?_
  show Go _ _ _ _ _ _ _ T40 (mkF m 19 #[.val (.ref ab), .val (.int nl), .val (.ref b40)] [(.ref ab)])
  refine Go.step (fun _ k => XS.iconst X40.here hx rfl (hb hby d8_19) k) ?_
  show Go _ _ _ _ _ _ _ T40 (mkF m 20 #[.val (.ref ab), .val (.int nl), .val (.ref b40)] [(.int (0 : Int32)), (.ref ab)])
  refine Go.step (fun _ k => XS.aloadN X40.here hx rfl (hb hby d8_20) rfl rfl k) ?_
  show Go _ _ _ _ _ _ _ T40 (mkF m 21 #[.val (.ref ab), .val (.int nl), .val (.ref b40)] [(.ref b40), (.int (0 : Int32)), (.ref ab)])
  refine Go.step (fun _ k => XS.iconst X40.here hx rfl (hb hby d8_21) k) ?_
  show Go _ _ _ _ _ _ _ T40 (mkF m 22 #[.val (.ref ab), .val (.int nl), .val (.ref b40)] [(.int (0 : Int32)), (.ref b40), (.int (0 : Int32)), (.ref ab)])
  refine Go.step (fun _ k => XS.aloadN X40.here hx rfl (hb hby d8_22) rfl rfl k) ?_
  show Go _ _ _ _ _ _ _ T40 (mkF m 23 #[.val (.ref ab), .val (.int nl), .val (.ref b40)] [(.ref ab), (.int (0 : Int32)), (.ref b40), (.int (0 : Int32)), (.ref ab)])
  have f42 : Arv Z h40 ab kb .byte nN vs (.int (0 : Int32)) := (V0.ext E40)
  obtain ⟨cl43, Ar43, -, S43, M43, -, -⟩ := id (f42)
  have al43 := X40.arraylength hx (by rw [e40]; exact Ar43.1) (State.isArrayOf_alike hZ.alike Ar43.2.1) (g := (mkF m 23 #[.val (.ref ab), .val (.int nl), .val (.ref b40)] [(.ref ab), (.int (0 : Int32)), (.ref b40), (.int (0 : Int32)), (.ref ab)])) rfl rfl (hb hby d8_23)
  rw [len_of S43 M43] at al43
  refine Go.step al43 ?_
  show Go _ _ _ _ _ _ _ T40 (mkF m 24 #[.val (.ref ab), .val (.int nl), .val (.ref b40)] [(.int nN), (.int (0 : Int32)), (.ref b40), (.int (0 : Int32)), (.ref ab)])
  refine Go.step (fun _ k => XS.iloadN X40.here hx rfl (hb hby d8_24) rfl k) ?_
  show Go _ _ _ _ _ _ _ T40 (mkF m 25 #[.val (.ref ab), .val (.int nl), .val (.ref b40)] [(.int nl), (.int nN), (.int (0 : Int32)), (.ref b40), (.int (0 : Int32)), (.ref ab)])
  obtain ⟨_, _, ⟨T44, L44, k44, n44⟩, -, X44, ⟨Lc44, hQ44, l44, y44, z44⟩, st44⟩ := Jvm.LawKit.callS X40 hx (y := (⟨"java/lang/Math", "min", "(II)I"⟩ : MethodName)) hown (mvT hZ (hw _ (List.mem_of_getElem? (i := 42) rfl))) (mvT hZ (hw _ (List.mem_of_getElem? (i := 43) rfl))) (mvT hZ (hw _ (List.mem_of_getElem? (i := 44) rfl))) (mvT hZ (hw _ (List.mem_of_getElem? (i := 45) rfl))) (by decide) (backOf (W := 4) (rmMi l Z a0 hw [] nN nl h40 n0 Z40 ) hZ (hw _ (List.mem_of_getElem? (i := 45) rfl)) (hw _ (List.mem_of_getElem? (i := 44) rfl)) (by decide) (by decide)) (g := (mkF m 25 #[.val (.ref ab), .val (.int nl), .val (.ref b40)] [(.int nl), (.int nN), (.int (0 : Int32)), (.ref b40), (.int (0 : Int32)), (.ref ab)])) rfl (by rw [hml]; rfl) (argsL := [(.int nN), (.int nl)]) (rest := [(.int (0 : Int32)), (.ref b40), (.int (0 : Int32)), (.ref ab)]) (lenOf pd__II_I rfl) rfl (by show 2 * 0 + _ ≤ _; exact Nat.le_of_eq rfl) (hb hby d8_25) (fun _ _ => ⟨rfl, e40, (by decide : 1 + 0 ≤ _), (by decide : 128 + 0 ≤ _)⟩)
  dsimp only [Pt.U, Pt.locs, Pt.cells, Pt.slots] at X44 l44 y44 z44 st44 hQ44
  subst l44 y44 z44
  obtain ⟨h44, e44⟩ : ∃ h, T44.heap = h := ⟨_, rfl⟩
  rw [e44] at hQ44
  obtain ⟨rfl, Nq44, hs44⟩ := hQ44
  have N44 := Fr.app N0 Nq44
  rw [hs44] at e44
  refine Go.step st44 ?_
  show Go _ _ _ _ _ _ _ T44 (mkF m 28 #[.val (.ref ab), .val (.int nl), .val (.ref b40)] [(.int (own_imin nN nl)), (.int (0 : Int32)), (.ref b40), (.int (0 : Int32)), (.ref ab)])
  have hm0 : ¬ (own_imin nN nl < 0) := by unfold own_imin; split <;> assumption
  have hm1 : ¬ (nN < own_imin nN nl) := by unfold own_imin; split <;> (rename_i q; simp only [Int32.lt_iff_toInt_lt] at q ⊢; omega)
  have hm2 : ¬ (nl < own_imin nN nl) := by unfold own_imin; split <;> (rename_i q; simp only [Int32.lt_iff_toInt_lt] at q ⊢; omega)
  obtain ⟨T45, h45, L45, X45, e45, N45, Kc45, V45, st45⟩ := cpA X44 hx hZ hown (hw _ (List.mem_of_getElem? (i := 46) rfl)) (hw _ (List.mem_of_getElem? (i := 49) rfl)) (hw _ (List.mem_of_getElem? (i := 47) rfl)) (hw _ (List.mem_of_getElem? (i := 48) rfl)) e44 (sp := (0 : Int32)) (dp := (0 : Int32)) (nn := (own_imin nN nl)) f42 V41 (Or.inl ⟨rfl, rfl⟩) (by decide) (by decide) hm0 (by show 0 + _ ≤ _; rw [Nat.zero_add]; exact own_tle hm1) (by show 0 + _ ≤ _; rw [Nat.zero_add]; exact own_tle hm2) rfl (by show 0 + _ ≤ _; rw [Nat.zero_add, List.length_replicate]; exact own_tle hm2) N44 g_b40 (g := (mkF m 28 #[.val (.ref ab), .val (.int nl), .val (.ref b40)] [(.int (own_imin nN nl)), (.int (0 : Int32)), (.ref b40), (.int (0 : Int32)), (.ref ab)])) rfl (by rw [hml]; rfl) rfl (hb hby d8_28) (by decide) (W := 0) (by show 2 * 0 + _ ≤ _; exact Nat.le_of_eq rfl) (by decide)
  refine Go.step st45 ?_
  have Z45 : n0 ≤ h45.size := Nat.le_trans Z40 Kc45.1
  have KK45 : Keep h0 h45 [] := KK40.trans Kc45 (allS (Or.inr sz_b40) all0)
  have Vc45 : Arv Z h45 b40 k40 .byte nl (own_cpl vs (own_imin nN nl).toNatClampNeg nl.toNatClampNeg) (.int (0 : Int32)) := V45
  show Go _ _ _ _ _ _ _ T45 (mkF m 31 #[.val (.ref ab), .val (.int nl), .val (.ref b40)] [])
  refine Go.step (fun _ k => XS.aloadN X45.here hx rfl (hb hby d8_31) rfl rfl k) ?_
  show Go _ _ _ _ _ _ _ T45 (mkF m 32 #[.val (.ref ab), .val (.int nl), .val (.ref b40)] [(.ref b40)])
  exact Go.retA X45 hx hret hlk rfl rfl (hb hby d8_32) e45 (by decide) (by decide) ⟨b40, k40, (own_cpl vs (own_imin nN nl).toNatClampNeg nl.toNatClampNeg), rfl, N45, KK45, sz_b40, Vc45, (own_cpl_len (own_tle hm2)), (fun i q => own_cpl_at q)⟩
theorem d13_0 : decode prog_38_method_34_code 0 = .ok (.aload_n 0, 1) := by decide +kernel
theorem d13_1 : decode prog_38_method_34_code 1 = .ok (.getfield 15, 3) := by decide +kernel
theorem d13_4 : decode prog_38_method_34_code 4 = .ok (.i2l, 1) := by decide +kernel
theorem d13_5 : decode prog_38_method_34_code 5 = .ok (.iload_n 1, 1) := by decide +kernel
theorem d13_6 : decode prog_38_method_34_code 6 = .ok (.i2l, 1) := by decide +kernel
theorem d13_7 : decode prog_38_method_34_code 7 = .ok (.ladd, 1) := by decide +kernel
theorem d13_8 : decode prog_38_method_34_code 8 = .ok (.lstore_n 2, 1) := by decide +kernel
theorem d13_9 : decode prog_38_method_34_code 9 = .ok (.lload_n 2, 1) := by decide +kernel
theorem d13_10 : decode prog_38_method_34_code 10 = .ok (.ldc2_w 253, 3) := by decide +kernel
theorem d13_13 : decode prog_38_method_34_code 13 = .ok (.lcmp, 1) := by decide +kernel
theorem d13_14 : decode prog_38_method_34_code 14 = .ok (.ifCond .le 14, 3) := by decide +kernel
theorem d13_17 : decode prog_38_method_34_code 17 = .ok (.new 255, 3) := by decide +kernel
theorem d13_20 : decode prog_38_method_34_code 20 = .ok (.dup, 1) := by decide +kernel
theorem d13_21 : decode prog_38_method_34_code 21 = .ok (.ldc_w 266, 3) := by decide +kernel
theorem d13_24 : decode prog_38_method_34_code 24 = .ok (.invokespecial 260, 3) := by decide +kernel
theorem d13_27 : decode prog_38_method_34_code 27 = .ok (.athrow, 1) := by decide +kernel
theorem d13_28 : decode prog_38_method_34_code 28 = .ok (.aload_n 0, 1) := by decide +kernel
theorem d13_29 : decode prog_38_method_34_code 29 = .ok (.aload_n 0, 1) := by decide +kernel
theorem d13_30 : decode prog_38_method_34_code 30 = .ok (.getfield 11, 3) := by decide +kernel
theorem d13_33 : decode prog_38_method_34_code 33 = .ok (.ldc2_w 253, 3) := by decide +kernel
theorem d13_36 : decode prog_38_method_34_code 36 = .ok (.lload_n 2, 1) := by decide +kernel
theorem d13_37 : decode prog_38_method_34_code 37 = .ok (.ldc2_w 247, 3) := by decide +kernel
theorem d13_40 : decode prog_38_method_34_code 40 = .ok (.aload_n 0, 1) := by decide +kernel
theorem d13_41 : decode prog_38_method_34_code 41 = .ok (.getfield 11, 3) := by decide +kernel
theorem d13_44 : decode prog_38_method_34_code 44 = .ok (.arraylength, 1) := by decide +kernel
theorem d13_45 : decode prog_38_method_34_code 45 = .ok (.i2l, 1) := by decide +kernel
theorem d13_46 : decode prog_38_method_34_code 46 = .ok (.lmul, 1) := by decide +kernel
theorem d13_47 : decode prog_38_method_34_code 47 = .ok (.invokestatic 268, 3) := by decide +kernel
theorem d13_50 : decode prog_38_method_34_code 50 = .ok (.invokestatic 274, 3) := by decide +kernel
theorem d13_53 : decode prog_38_method_34_code 53 = .ok (.l2i, 1) := by decide +kernel
theorem d13_54 : decode prog_38_method_34_code 54 = .ok (.invokestatic 19, 3) := by decide +kernel
theorem d13_57 : decode prog_38_method_34_code 57 = .ok (.putfield 11, 3) := by decide +kernel
theorem d13_60 : decode prog_38_method_34_code 60 = .ok (.return_, 1) := by decide +kernel
theorem pd__JJ_J : parseMethodDescriptor "(JJ)J" = some ⟨[.long, .long], some .long⟩ := by decide +kernel
theorem ef_rmGr (m : MethodId) (ao : Addr) : entryFrame m #[(.ref ao), (.int (100 : Int32))] 4 = mkF m 0 #[.val (.ref ao), .val (.int (100 : Int32)), .unset, .unset] [] := by first | (simp [entryFrame, mkF, argsToLocals, Value.category]; done) | rfl
def Q_rmGr (Z : State) (ao : Addr) (ab : Addr) (kb : ClassId) (vs : List Value) (h0 : Heap) (n0 : Nat) (v : Option Value) (h : Heap) (L : List Loc) : Prop := ∃ aq : Addr, ∃ kq : ClassId, ∃ vq : List Value, (v = none) ∧ (Fr n0 L) ∧ (Keep h0 h [ao]) ∧ (h0.size ≤ aq) ∧ (Exa Z h ao "com/example/stitchwire/stitchwire/Output") ∧ (Fld Z h ao "com/example/stitchwire/stitchwire/Output" "buffer" "[B" (.ref aq)) ∧ (Fld Z h ao "com/example/stitchwire/stitchwire/Output" "size" "I" (.int (1 : Int32))) ∧ (Arv Z h aq kq .byte (128 : Int32) vq (.int (0 : Int32))) ∧ (vq.length = (128 : Int32).toNatClampNeg)
set_option maxRecDepth 65536 in
set_option maxHeartbeats 40000000 in
theorem rmGr (l : Launch) (Z : State) (a0 : Array Value) (hw : ∀ d ∈ tables_1, d.before a0 Z = true) (ws : List Jvm.Cond) (ao : Addr) (ab : Addr) (kb : ClassId) (vs : List Value) (h0 : Heap) (n0 : Nat) (Z0 : n0 ≤ h0.size) (E0 : Exa Z h0 ao "com/example/stitchwire/stitchwire/Output") (Fb : Fld Z h0 ao "com/example/stitchwire/stitchwire/Output" "buffer" "[B" (.ref ab)) (Fs : Fld Z h0 ao "com/example/stitchwire/stitchwire/Output" "size" "I" (.int (1 : Int32))) (V0 : Arv Z h0 ab kb .byte (64 : Int32) vs (.int (0 : Int32))) (g0 : n0 ≤ ao) (ne0 : ao ≠ ab) (hlen : vs.length = (64 : Int32).toNatClampNeg) :
    MetFree l (⟨"com/example/stitchwire/stitchwire/Output", "grow", "(I)V"⟩ : MethodName) (head1 (Jvm.Cond.code (⟨"com/example/stitchwire/stitchwire/Output", "grow", "(I)V"⟩ : MethodName) prog_38_method_34_code 4 none :: ws) ({ frames := 2, cells := 1, slots := 128, locals := 39 } : Room)) (fun aA U => aA = #[(.ref ao), (.int (100 : Int32))] ∧ Z.Warmed39 U.vm ∧ U.heap = h0) (fun _ _ _ _ _ => True) (fun _ U o U' => ∃ v L, o = .returned v ∧ Q_rmGr Z ao ab kb vs h0 n0 v U'.heap L ∧ FrameEnd U o U' L ({ frames := 2, cells := 1, slots := 128, locals := 39 } : Room).cells ({ frames := 2, cells := 1, slots := 128, locals := 39 } : Room).slots) := by
  refine MetFree.of_bodySF (plainFor_of_name pn_com_example_stitchwire_stitchwire_Output) hisR ?_
  intro p e s m args below meth c s₁ Bd hml0 hP hK
  obtain ⟨rfl, hZ, hh⟩ := hP
  have hx := Bd.exec
  have hby := Bd.bytes
  have hml : c.maxLocals = 4 := hml0
  have hown : s.vm.findClass "com/example/stitchwire/stitchwire/Output" = some m.cls := findClass_of_methodNamed Bd.named
  have hnm := (name_of_methodNamed Bd.named Bd.method).1
  have hret := Bd.returns
  have hlk : meth.locks = false := BodyLoose.notSynchronized Bd
  have X0 : Stand p l e ({ frames := 2, cells := 1, slots := 128, locals := 39 } : Room) s m #[(.ref ao), (.int (100 : Int32))] below meth c s₁ [] 0 0 := Stand.of_body Bd
  have e0 : s₁.heap = h0 := by rw [← hh, Bd.state]; rfl
  have N0 := Fr.nil n0
  suffices hgo : Go p e below s ({ frames := 2, cells := 1, slots := 128, locals := 39 } : Room).cells ({ frames := 2, cells := 1, slots := 128, locals := 39 } : Room).slots (Q_rmGr Z ao ab kb vs h0 n0) s₁ (mkF m 0 #[.val (.ref ao), .val (.int (100 : Int32)), .unset, .unset] []) from hgo.enter (ef_rmGr m ao)
  refine Go.step (fun _ k => XS.aloadN X0.here hx rfl (hb hby d13_0) rfl rfl k) ?_
  show Go _ _ _ _ _ _ _ s₁ (mkF m 1 #[.val (.ref ao), .val (.int (100 : Int32)), .unset, .unset] [(.ref ao)])
  obtain ⟨T46, X46, e46, st46⟩ := getF X0 hx hZ hown (host := "") (Or.inl (hw _ (List.mem_of_getElem? (i := 21) rfl))) Via.refl e0 Fs (g := (mkF m 1 #[.val (.ref ao), .val (.int (100 : Int32)), .unset, .unset] [(.ref ao)])) rfl rfl (hb hby d13_1)
  refine Go.step st46 ?_
  show Go _ _ _ _ _ _ _ T46 (mkF m 4 #[.val (.ref ao), .val (.int (100 : Int32)), .unset, .unset] [(.int (1 : Int32))])
  refine Go.step (fun _ k => XS.i2l X46.here hx rfl (hb hby d13_4) rfl k) ?_
  show Go _ _ _ _ _ _ _ T46 (mkF m 5 #[.val (.ref ao), .val (.int (100 : Int32)), .unset, .unset] [(.long (1 : Int64))])
  refine Go.step (fun _ k => XS.iloadN X46.here hx rfl (hb hby d13_5) rfl k) ?_
  show Go _ _ _ _ _ _ _ T46 (mkF m 6 #[.val (.ref ao), .val (.int (100 : Int32)), .unset, .unset] [(.int (100 : Int32)), (.long (1 : Int64))])
  refine Go.step (fun _ k => XS.i2l X46.here hx rfl (hb hby d13_6) rfl k) ?_
  show Go _ _ _ _ _ _ _ T46 (mkF m 7 #[.val (.ref ao), .val (.int (100 : Int32)), .unset, .unset] [(.long (100 : Int64)), (.long (1 : Int64))])
  refine Go.step (fun _ k => XS.ladd X46.here hx rfl (hb hby d13_7) rfl k) ?_
  show Go _ _ _ _ _ _ _ T46 (mkF m 8 #[.val (.ref ao), .val (.int (100 : Int32)), .unset, .unset] [(.long (101 : Int64))])
  refine Go.step (fun _ k => XS.lstoreN X46.here hx rfl (hb hby d13_8) rfl (l' := #[.val (.ref ao), .val (.int (100 : Int32)), .val (.long (101 : Int64)), .second]) rfl k) ?_
  show Go _ _ _ _ _ _ _ T46 (mkF m 9 #[.val (.ref ao), .val (.int (100 : Int32)), .val (.long (101 : Int64)), .second] [])
  refine Go.step (fun _ k => XS.lloadN X46.here hx rfl (hb hby d13_9) rfl k) ?_
  show Go _ _ _ _ _ _ _ T46 (mkF m 10 #[.val (.ref ao), .val (.int (100 : Int32)), .val (.long (101 : Int64)), .second] [(.long (101 : Int64))])
  refine Go.step (X46.ldc2Long hx hown (mvT hZ (hw _ (List.mem_of_getElem? (i := 68) rfl))) (g := (mkF m 10 #[.val (.ref ao), .val (.int (100 : Int32)), .val (.long (101 : Int64)), .second] [(.long (101 : Int64))])) rfl (hb hby d13_10)) ?_
  show Go _ _ _ _ _ _ _ T46 (mkF m 13 #[.val (.ref ao), .val (.int (100 : Int32)), .val (.long (101 : Int64)), .second] [(.long (2147483639 : Int64)), (.long (101 : Int64))])
  refine Go.step (fun _ k => XS.lcmp X46.here hx rfl (hb hby d13_13) rfl k) ?_
  show Go _ _ _ _ _ _ _ T46 (mkF m 14 #[.val (.ref ao), .val (.int (100 : Int32)), .val (.long (101 : Int64)), .second] [(.int (lcmpW (101 : Int64) (2147483639 : Int64)))])
  have hc14_47 : ¬ ((2147483639 : Int64) < (101 : Int64)) := (by decide)
  refine Go.step (fun _ k => XS.ifYes X46.here hx rfl (pc0 := 14) (pc' := 28) rfl (hb hby d13_14) rfl ((if0 _ _).trans (flt (mt (lw_gt _ _).mp hc14_47)).2.2.2) (by decide) (by decide) k) ?_
  show Go _ _ _ _ _ _ _ T46 (mkF m 28 #[.val (.ref ao), .val (.int (100 : Int32)), .val (.long (101 : Int64)), .second] [])
  refine Go.step (fun _ k => XS.aloadN X46.here hx rfl (hb hby d13_28) rfl rfl k) ?_
  show Go _ _ _ _ _ _ _ T46 (mkF m 29 #[.val (.ref ao), .val (.int (100 : Int32)), .val (.long (101 : Int64)), .second] [(.ref ao)])
  refine Go.step (fun _ k => XS.aloadN X46.here hx rfl (hb hby d13_29) rfl rfl k) ?_
  show Go _ _ _ _ _ _ _ T46 (mkF m 30 #[.val (.ref ao), .val (.int (100 : Int32)), .val (.long (101 : Int64)), .second] [(.ref ao), (.ref ao)])
  obtain ⟨T48, X48, e48, st48⟩ := getF X46 hx hZ hown (host := "") (Or.inl (hw _ (List.mem_of_getElem? (i := 10) rfl))) Via.refl e46 Fb (g := (mkF m 30 #[.val (.ref ao), .val (.int (100 : Int32)), .val (.long (101 : Int64)), .second] [(.ref ao), (.ref ao)])) rfl rfl (hb hby d13_30)
  refine Go.step st48 ?_
  show Go _ _ _ _ _ _ _ T48 (mkF m 33 #[.val (.ref ao), .val (.int (100 : Int32)), .val (.long (101 : Int64)), .second] [(.ref ab), (.ref ao)])
  refine Go.step (X48.ldc2Long hx hown (mvT hZ (hw _ (List.mem_of_getElem? (i := 68) rfl))) (g := (mkF m 33 #[.val (.ref ao), .val (.int (100 : Int32)), .val (.long (101 : Int64)), .second] [(.ref ab), (.ref ao)])) rfl (hb hby d13_33)) ?_
  show Go _ _ _ _ _ _ _ T48 (mkF m 36 #[.val (.ref ao), .val (.int (100 : Int32)), .val (.long (101 : Int64)), .second] [(.long (2147483639 : Int64)), (.ref ab), (.ref ao)])
  refine Go.step (fun _ k => XS.lloadN X48.here hx rfl (hb hby d13_36) rfl k) ?_
  show Go _ _ _ _ _ _ _ T48 (mkF m 37 #[.val (.ref ao), .val (.int (100 : Int32)), .val (.long (101 : Int64)), .second] [(.long (101 : Int64)), (.long (2147483639 : Int64)), (.ref ab), (.ref ao)])
  refine Go.step (X48.ldc2Long hx hown (mvT hZ (hw _ (List.mem_of_getElem? (i := 69) rfl))) (g := (mkF m 37 #[.val (.ref ao), .val (.int (100 : Int32)), .val (.long (101 : Int64)), .second] [(.long (101 : Int64)), (.long (2147483639 : Int64)), (.ref ab), (.ref ao)])) rfl (hb hby d13_37)) ?_
  show Go _ _ _ _ _ _ _ T48 (mkF m 40 #[.val (.ref ao), .val (.int (100 : Int32)), .val (.long (101 : Int64)), .second] [(.long (2 : Int64)), (.long (101 : Int64)), (.long (2147483639 : Int64)), (.ref ab), (.ref ao)])
  refine Go.step (fun _ k => XS.aloadN X48.here hx rfl (hb hby d13_40) rfl rfl k) ?_
  show Go _ _ _ _ _ _ _ T48 (mkF m 41 #[.val (.ref ao), .val (.int (100 : Int32)), .val (.long (101 : Int64)), .second] [(.ref ao), (.long (2 : Int64)), (.long (101 : Int64)), (.long (2147483639 : Int64)), (.ref ab), (.ref ao)])
  obtain ⟨T49, X49, e49, st49⟩ := getF X48 hx hZ hown (host := "") (Or.inl (hw _ (List.mem_of_getElem? (i := 10) rfl))) Via.refl e48 Fb (g := (mkF m 41 #[.val (.ref ao), .val (.int (100 : Int32)), .val (.long (101 : Int64)), .second] [(.ref ao), (.long (2 : Int64)), (.long (101 : Int64)), (.long (2147483639 : Int64)), (.ref ab), (.ref ao)])) rfl rfl (hb hby d13_41)
  refine Go.step st49 ?_
  show Go _ _ _ _ _ _ _ T49 (mkF m 44 #[.val (.ref ao), .val (.int (100 : Int32)), .val (.long (101 : Int64)), .second] [(.ref ab), (.long (2 : Int64)), (.long (101 : Int64)), (.long (2147483639 : Int64)), (.ref ab), (.ref ao)])
  obtain ⟨cl50, Ar50, -, S50, M50, -, -⟩ := id (V0)
  have al50 := X49.arraylength hx (by rw [e49]; exact Ar50.1) (State.isArrayOf_alike hZ.alike Ar50.2.1) (g := (mkF m 44 #[.val (.ref ao), .val (.int (100 : Int32)), .val (.long (101 : Int64)), .second] [(.ref ab), (.long (2 : Int64)), (.long (101 : Int64)), (.long (2147483639 : Int64)), (.ref ab), (.ref ao)])) rfl rfl (hb hby d13_44)
  rw [len_of S50 M50] at al50
  refine Go.step al50 ?_
  show Go _ _ _ _ _ _ _ T49 (mkF m 45 #[.val (.ref ao), .val (.int (100 : Int32)), .val (.long (101 : Int64)), .second] [(.int (64 : Int32)), (.long (2 : Int64)), (.long (101 : Int64)), (.long (2147483639 : Int64)), (.ref ab), (.ref ao)])
  refine Go.step (fun _ k => XS.i2l X49.here hx rfl (hb hby d13_45) rfl k) ?_
  show Go _ _ _ _ _ _ _ T49 (mkF m 46 #[.val (.ref ao), .val (.int (100 : Int32)), .val (.long (101 : Int64)), .second] [(.long (64 : Int64)), (.long (2 : Int64)), (.long (101 : Int64)), (.long (2147483639 : Int64)), (.ref ab), (.ref ao)])
  refine Go.step (fun _ k => XS.lmul X49.here hx rfl (hb hby d13_46) rfl k) ?_
  show Go _ _ _ _ _ _ _ T49 (mkF m 47 #[.val (.ref ao), .val (.int (100 : Int32)), .val (.long (101 : Int64)), .second] [(.long (128 : Int64)), (.long (101 : Int64)), (.long (2147483639 : Int64)), (.ref ab), (.ref ao)])
  obtain ⟨_, _, ⟨T51, L51, k51, n51⟩, -, X51, ⟨Lc51, hQ51, l51, y51, z51⟩, st51⟩ := Jvm.LawKit.callS X49 hx (y := (⟨"java/lang/Math", "max", "(JJ)J"⟩ : MethodName)) hown (mvT hZ (hw _ (List.mem_of_getElem? (i := 70) rfl))) (mvT hZ (hw _ (List.mem_of_getElem? (i := 71) rfl))) (mvT hZ (hw _ (List.mem_of_getElem? (i := 44) rfl))) (mvT hZ (hw _ (List.mem_of_getElem? (i := 72) rfl))) (by decide) (backOf (W := 4) (rmMax l Z a0 hw [] (101 : Int64) (128 : Int64) h0 n0 Z0 ) hZ (hw _ (List.mem_of_getElem? (i := 72) rfl)) (hw _ (List.mem_of_getElem? (i := 44) rfl)) (by decide) (by decide)) (g := (mkF m 47 #[.val (.ref ao), .val (.int (100 : Int32)), .val (.long (101 : Int64)), .second] [(.long (128 : Int64)), (.long (101 : Int64)), (.long (2147483639 : Int64)), (.ref ab), (.ref ao)])) rfl (by rw [hml]; rfl) (argsL := [(.long (101 : Int64)), (.long (128 : Int64))]) (rest := [(.long (2147483639 : Int64)), (.ref ab), (.ref ao)]) (lenOf pd__JJ_J rfl) rfl (by show 2 * 0 + _ ≤ _; exact Nat.le_of_eq rfl) (hb hby d13_47) (fun _ _ => ⟨rfl, e49, (by decide : 0 + 0 ≤ _), (by decide : 0 + 0 ≤ _)⟩)
  dsimp only [Pt.U, Pt.locs, Pt.cells, Pt.slots] at X51 l51 y51 z51 st51 hQ51
  subst l51 y51 z51
  obtain ⟨h51, e51⟩ : ∃ h, T51.heap = h := ⟨_, rfl⟩
  rw [e51] at hQ51
  obtain ⟨rfl, Nq51, hs51⟩ := hQ51
  have N51 := Fr.app N0 Nq51
  rw [hs51] at e51
  refine Go.step st51 ?_
  have qf51 : (own_max (101 : Int64) (128 : Int64)) = (128 : Int64) := by decide
  rw [qf51]
  show Go _ _ _ _ _ _ _ T51 (mkF m 50 #[.val (.ref ao), .val (.int (100 : Int32)), .val (.long (101 : Int64)), .second] [(.long (128 : Int64)), (.long (2147483639 : Int64)), (.ref ab), (.ref ao)])
  obtain ⟨_, _, ⟨T52, L52, k52, n52⟩, -, X52, ⟨Lc52, hQ52, l52, y52, z52⟩, st52⟩ := Jvm.LawKit.callS X51 hx (y := (⟨"java/lang/Math", "min", "(JJ)J"⟩ : MethodName)) hown (mvT hZ (hw _ (List.mem_of_getElem? (i := 73) rfl))) (mvT hZ (hw _ (List.mem_of_getElem? (i := 74) rfl))) (mvT hZ (hw _ (List.mem_of_getElem? (i := 44) rfl))) (mvT hZ (hw _ (List.mem_of_getElem? (i := 75) rfl))) (by decide) (backOf (W := 2) (rmMin l Z a0 hw [] (2147483639 : Int64) (128 : Int64) h0 n0 Z0 ) hZ (hw _ (List.mem_of_getElem? (i := 75) rfl)) (hw _ (List.mem_of_getElem? (i := 44) rfl)) (by decide) (by decide)) (g := (mkF m 50 #[.val (.ref ao), .val (.int (100 : Int32)), .val (.long (101 : Int64)), .second] [(.long (128 : Int64)), (.long (2147483639 : Int64)), (.ref ab), (.ref ao)])) rfl (by rw [hml]; rfl) (argsL := [(.long (2147483639 : Int64)), (.long (128 : Int64))]) (rest := [(.ref ab), (.ref ao)]) (lenOf pd__JJ_J rfl) rfl (by show 2 * 0 + _ ≤ _; exact Nat.le_of_eq rfl) (hb hby d13_50) (fun _ _ => ⟨rfl, e51, (by decide : 0 + 0 ≤ _), (by decide : 0 + 0 ≤ _)⟩)
  dsimp only [Pt.U, Pt.locs, Pt.cells, Pt.slots] at X52 l52 y52 z52 st52 hQ52
  subst l52 y52 z52
  obtain ⟨h52, e52⟩ : ∃ h, T52.heap = h := ⟨_, rfl⟩
  rw [e52] at hQ52
  obtain ⟨rfl, Nq52, hs52⟩ := hQ52
  have N52 := Fr.app N51 Nq52
  rw [hs52] at e52
  refine Go.step st52 ?_
  have qf52 : (own_min (2147483639 : Int64) (128 : Int64)) = (128 : Int64) := by decide
  rw [qf52]
  show Go _ _ _ _ _ _ _ T52 (mkF m 53 #[.val (.ref ao), .val (.int (100 : Int32)), .val (.long (101 : Int64)), .second] [(.long (128 : Int64)), (.ref ab), (.ref ao)])
  refine Go.step (fun _ k => XS.l2i X52.here hx rfl (hb hby d13_53) rfl k) ?_
  show Go _ _ _ _ _ _ _ T52 (mkF m 54 #[.val (.ref ao), .val (.int (100 : Int32)), .val (.long (101 : Int64)), .second] [(.int (128 : Int32)), (.ref ab), (.ref ao)])
  obtain ⟨_, _, ⟨T53, L53, k53, n53⟩, -, X53, ⟨Lc53, hQ53, l53, y53, z53⟩, st53⟩ := Jvm.LawKit.callS X52 hx (y := (⟨"java/util/Arrays", "copyOf", "([BI)[B"⟩ : MethodName)) hown (mvT hZ (hw _ (List.mem_of_getElem? (i := 38) rfl))) (mvT hZ (hw _ (List.mem_of_getElem? (i := 39) rfl))) (mvT hZ (hw _ (List.mem_of_getElem? (i := 40) rfl))) (mvT hZ (hw _ (List.mem_of_getElem? (i := 41) rfl))) (by decide) (backOf (W := 1) (rmCg l Z a0 hw [] ab (128 : Int32) kb (64 : Int32) vs h0 n0 Z0 V0 (by decide) (by decide) (by decide) (by decide) hlen) hZ (hw _ (List.mem_of_getElem? (i := 41) rfl)) (hw _ (List.mem_of_getElem? (i := 40) rfl)) (by decide) (by decide)) (g := (mkF m 54 #[.val (.ref ao), .val (.int (100 : Int32)), .val (.long (101 : Int64)), .second] [(.int (128 : Int32)), (.ref ab), (.ref ao)])) rfl (by rw [hml]; rfl) (argsL := [(.ref ab), (.int (128 : Int32))]) (rest := [(.ref ao)]) (lenOf pd___BI__B rfl) rfl (by show 2 * 0 + _ ≤ _; exact Nat.le_of_eq rfl) (hb hby d13_54) (fun _ _ => ⟨rfl, e52, (by decide : 0 + 1 ≤ _), (by decide : 0 + 128 ≤ _)⟩)
  dsimp only [Pt.U, Pt.locs, Pt.cells, Pt.slots] at X53 l53 y53 z53 st53 hQ53
  subst l53 y53 z53
  obtain ⟨h53, e53⟩ : ∃ h, T53.heap = h := ⟨_, rfl⟩
  rw [e53] at hQ53
  obtain ⟨ar_53, kr_53, vr_53, rfl, Nq53, Kq53, sz__53, V1_53, pl_53, pa_53⟩ := hQ53
  have N53 := Fr.app N52 Nq53
  have Z53 : n0 ≤ h53.size := Nat.le_trans Z0 Kq53.1
  have KK53 : Keep h0 h53 [ao] := (Keep.refl h0 [ao]).trans Kq53 all0
  have g_ar_53 : n0 ≤ ar_53 := Nat.le_trans Z0 sz__53
  have sz_ar_53 : h0.size ≤ ar_53 := Nat.le_trans (Keep.refl h0 [ao]).1 sz__53
  have ne_ab_ar_53 : ab ≠ ar_53 := Nat.ne_of_lt (Nat.lt_of_lt_of_le V0.lt sz__53)
  have ne_ao_ar_53 : ao ≠ ar_53 := Nat.ne_of_lt (Nat.lt_of_lt_of_le E0.lt sz__53)
  refine Go.step st53 ?_
  show Go _ _ _ _ _ _ _ T53 (mkF m 57 #[.val (.ref ao), .val (.int (100 : Int32)), .val (.long (101 : Int64)), .second] [(.ref ar_53), (.ref ao)])
  have f54 : Fld Z h53 ao "com/example/stitchwire/stitchwire/Output" "buffer" "[B" (.ref ab) := (Fb.keep Kq53 nin0)
  have f55 : Exa Z h53 ao "com/example/stitchwire/stitchwire/Output" := (E0.keep Kq53)
  obtain ⟨T56, h56, X56, e56, W56, st56⟩ := putF X53 hx hZ hown (host := "") (Or.inl (hw _ (List.mem_of_getElem? (i := 10) rfl))) Via.refl e53 f54 f55 (Or.inl (hw _ (List.mem_of_getElem? (i := 11) rfl))) (hw _ (List.mem_of_getElem? (i := 2) rfl)) (ty := (.array .byte)) (by decide) rfl rfl (g := (mkF m 57 #[.val (.ref ao), .val (.int (100 : Int32)), .val (.long (101 : Int64)), .second] [(.ref ar_53), (.ref ao)])) rfl rfl (hb hby d13_57)
  refine Go.step st56 ?_
  have Fw56 := f54.same W56
  have N56 := Fr.snoc X56 N53 g0
  have Z56 : n0 ≤ h56.size := Nat.le_trans Z53 (Keep.of_wr W56).1
  have KK56 : Keep h0 h56 [ao] := KK53.wr W56 (Or.inl (List.mem_of_getElem? (i := 0) rfl))
  show Go _ _ _ _ _ _ _ T56 (mkF m 60 #[.val (.ref ao), .val (.int (100 : Int32)), .val (.long (101 : Int64)), .second] [])
  have f57 : Exa Z h56 ao "com/example/stitchwire/stitchwire/Output" := (f55.wr W56)
  have f58 : Fld Z h56 ao "com/example/stitchwire/stitchwire/Output" "size" "I" (.int (1 : Int32)) := ((Fs.keep Kq53 nin0).other W56 (Or.inr (slot_ne (a0 := a0) (C := "com/example/stitchwire/stitchwire/Output") (Or.inl (hw _ (List.mem_of_getElem? (i := 22) rfl))) (Or.inl (hw _ (List.mem_of_getElem? (i := 11) rfl))) (by decide) (t := .int) (t' := (.array .byte)) (by decide) (by decide))))
  have f59 : Arv Z h56 ar_53 kr_53 .byte (128 : Int32) vr_53 (.int (0 : Int32)) := (V1_53.other W56 (Ne.symm ne_ao_ar_53))
  exact Go.ret0 X56 hx hret hlk (hb hby d13_60) e56 (by decide) (by decide) ⟨ar_53, kr_53, vr_53, rfl, N56, KK56, sz_ar_53, f57, Fw56, f58, f59, pl_53⟩
theorem ef_rmEg (m : MethodId) (ao : Addr) : entryFrame m #[(.ref ao), (.int (100 : Int32))] 2 = mkF m 0 #[.val (.ref ao), .val (.int (100 : Int32))] [] := by first | (simp [entryFrame, mkF, argsToLocals, Value.category]; done) | rfl
def Q_rmEg (Z : State) (ao : Addr) (ab : Addr) (kb : ClassId) (vs : List Value) (h0 : Heap) (n0 : Nat) (v : Option Value) (h : Heap) (L : List Loc) : Prop := ∃ aq : Addr, ∃ kq : ClassId, ∃ vq : List Value, (v = none) ∧ (Fr n0 L) ∧ (Keep h0 h [ao]) ∧ (h0.size ≤ aq) ∧ (Exa Z h ao "com/example/stitchwire/stitchwire/Output") ∧ (Fld Z h ao "com/example/stitchwire/stitchwire/Output" "buffer" "[B" (.ref aq)) ∧ (Fld Z h ao "com/example/stitchwire/stitchwire/Output" "size" "I" (.int (1 : Int32))) ∧ (Arv Z h aq kq .byte (128 : Int32) vq (.int (0 : Int32))) ∧ (vq.length = (128 : Int32).toNatClampNeg)
set_option maxRecDepth 65536 in
set_option maxHeartbeats 40000000 in
theorem rmEg (l : Launch) (Z : State) (a0 : Array Value) (hw : ∀ d ∈ tables_1, d.before a0 Z = true) (ws : List Jvm.Cond) (ao : Addr) (ab : Addr) (kb : ClassId) (vs : List Value) (h0 : Heap) (n0 : Nat) (Z0 : n0 ≤ h0.size) (E0 : Exa Z h0 ao "com/example/stitchwire/stitchwire/Output") (Fb : Fld Z h0 ao "com/example/stitchwire/stitchwire/Output" "buffer" "[B" (.ref ab)) (Fs : Fld Z h0 ao "com/example/stitchwire/stitchwire/Output" "size" "I" (.int (1 : Int32))) (V0 : Arv Z h0 ab kb .byte (64 : Int32) vs (.int (0 : Int32))) (g0 : n0 ≤ ao) (ne0 : ao ≠ ab) (hlen : vs.length = (64 : Int32).toNatClampNeg) :
    MetFree l (⟨"com/example/stitchwire/stitchwire/Output", "ensureRoom", "(I)V"⟩ : MethodName) (head1 (Jvm.Cond.code (⟨"com/example/stitchwire/stitchwire/Output", "ensureRoom", "(I)V"⟩ : MethodName) prog_38_method_33_code 2 none :: ws) ({ frames := 3, cells := 1, slots := 128, locals := 54 } : Room)) (fun aA U => aA = #[(.ref ao), (.int (100 : Int32))] ∧ Z.Warmed39 U.vm ∧ U.heap = h0) (fun _ _ _ _ _ => True) (fun _ U o U' => ∃ v L, o = .returned v ∧ Q_rmEg Z ao ab kb vs h0 n0 v U'.heap L ∧ FrameEnd U o U' L ({ frames := 3, cells := 1, slots := 128, locals := 54 } : Room).cells ({ frames := 3, cells := 1, slots := 128, locals := 54 } : Room).slots) := by
  refine MetFree.of_bodySF (plainFor_of_name pn_com_example_stitchwire_stitchwire_Output) hisR ?_
  intro p e s m args below meth c s₁ Bd hml0 hP hK
  obtain ⟨rfl, hZ, hh⟩ := hP
  have hx := Bd.exec
  have hby := Bd.bytes
  have hml : c.maxLocals = 2 := hml0
  have hown : s.vm.findClass "com/example/stitchwire/stitchwire/Output" = some m.cls := findClass_of_methodNamed Bd.named
  have hnm := (name_of_methodNamed Bd.named Bd.method).1
  have hret := Bd.returns
  have hlk : meth.locks = false := BodyLoose.notSynchronized Bd
  have X0 : Stand p l e ({ frames := 3, cells := 1, slots := 128, locals := 54 } : Room) s m #[(.ref ao), (.int (100 : Int32))] below meth c s₁ [] 0 0 := Stand.of_body Bd
  have e0 : s₁.heap = h0 := by rw [← hh, Bd.state]; rfl
  have N0 := Fr.nil n0
  suffices hgo : Go p e below s ({ frames := 3, cells := 1, slots := 128, locals := 54 } : Room).cells ({ frames := 3, cells := 1, slots := 128, locals := 54 } : Room).slots (Q_rmEg Z ao ab kb vs h0 n0) s₁ (mkF m 0 #[.val (.ref ao), .val (.int (100 : Int32))] []) from hgo.enter (ef_rmEg m ao)
  refine Go.step (fun _ k => XS.iloadN X0.here hx rfl (hb hby d4_0) rfl k) ?_
  show Go _ _ _ _ _ _ _ s₁ (mkF m 1 #[.val (.ref ao), .val (.int (100 : Int32))] [(.int (100 : Int32))])
  refine Go.step (fun _ k => XS.aloadN X0.here hx rfl (hb hby d4_1) rfl rfl k) ?_
  show Go _ _ _ _ _ _ _ s₁ (mkF m 2 #[.val (.ref ao), .val (.int (100 : Int32))] [(.ref ao), (.int (100 : Int32))])
  obtain ⟨T60, X60, e60, st60⟩ := getF X0 hx hZ hown (host := "") (Or.inl (hw _ (List.mem_of_getElem? (i := 10) rfl))) Via.refl e0 Fb (g := (mkF m 2 #[.val (.ref ao), .val (.int (100 : Int32))] [(.ref ao), (.int (100 : Int32))])) rfl rfl (hb hby d4_2)
  refine Go.step st60 ?_
  show Go _ _ _ _ _ _ _ T60 (mkF m 5 #[.val (.ref ao), .val (.int (100 : Int32))] [(.ref ab), (.int (100 : Int32))])
  obtain ⟨cl61, Ar61, -, S61, M61, -, -⟩ := id (V0)
  have al61 := X60.arraylength hx (by rw [e60]; exact Ar61.1) (State.isArrayOf_alike hZ.alike Ar61.2.1) (g := (mkF m 5 #[.val (.ref ao), .val (.int (100 : Int32))] [(.ref ab), (.int (100 : Int32))])) rfl rfl (hb hby d4_5)
  rw [len_of S61 M61] at al61
  refine Go.step al61 ?_
  show Go _ _ _ _ _ _ _ T60 (mkF m 6 #[.val (.ref ao), .val (.int (100 : Int32))] [(.int (64 : Int32)), (.int (100 : Int32))])
  refine Go.step (fun _ k => XS.aloadN X60.here hx rfl (hb hby d4_6) rfl rfl k) ?_
  show Go _ _ _ _ _ _ _ T60 (mkF m 7 #[.val (.ref ao), .val (.int (100 : Int32))] [(.ref ao), (.int (64 : Int32)), (.int (100 : Int32))])
  obtain ⟨T62, X62, e62, st62⟩ := getF X60 hx hZ hown (host := "") (Or.inl (hw _ (List.mem_of_getElem? (i := 21) rfl))) Via.refl e60 Fs (g := (mkF m 7 #[.val (.ref ao), .val (.int (100 : Int32))] [(.ref ao), (.int (64 : Int32)), (.int (100 : Int32))])) rfl rfl (hb hby d4_7)
  refine Go.step st62 ?_
  show Go _ _ _ _ _ _ _ T62 (mkF m 10 #[.val (.ref ao), .val (.int (100 : Int32))] [(.int (1 : Int32)), (.int (64 : Int32)), (.int (100 : Int32))])
  refine Go.step (fun _ k => XS.isub X62.here hx rfl (hb hby d4_10) rfl k) ?_
  show Go _ _ _ _ _ _ _ T62 (mkF m 11 #[.val (.ref ao), .val (.int (100 : Int32))] [(.int (63 : Int32)), (.int (100 : Int32))])
  have hc11_63 : (63 : Int32) < (100 : Int32) := (by decide)
  refine Go.step (fun _ k => XS.icmpNo X62.here hx rfl (hb hby d4_11) rfl (tlt hc11_63).2.2.2 k) ?_
  show Go _ _ _ _ _ _ _ T62 (mkF m 14 #[.val (.ref ao), .val (.int (100 : Int32))] [])
  refine Go.step (fun _ k => XS.aloadN X62.here hx rfl (hb hby d4_14) rfl rfl k) ?_
  show Go _ _ _ _ _ _ _ T62 (mkF m 15 #[.val (.ref ao), .val (.int (100 : Int32))] [(.ref ao)])
  refine Go.step (fun _ k => XS.iloadN X62.here hx rfl (hb hby d4_15) rfl k) ?_
  show Go _ _ _ _ _ _ _ T62 (mkF m 16 #[.val (.ref ao), .val (.int (100 : Int32))] [(.int (100 : Int32)), (.ref ao)])
  obtain ⟨cq64, q64, q64'⟩ := E0.cell
  obtain ⟨_, _, ⟨T64, L64, k64, n64⟩, -, X64, ⟨Lc64, hQ64, l64, y64, z64⟩, st64⟩ := X62.privateBack hx (y := (⟨"com/example/stitchwire/stitchwire/Output", "grow", "(I)V"⟩ : MethodName)) hown (mvT hZ (hw _ (List.mem_of_getElem? (i := 64) rfl))) (mvT hZ (hw _ (List.mem_of_getElem? (i := 65) rfl))) (own_selp (mvT hZ (hw _ (List.mem_of_getElem? (i := 2) rfl))) (Cond.privateMethod_at (mvP hZ (hw _ (List.mem_of_getElem? (i := 66) rfl)) (args := #[]))) (mvT hZ (hw _ (List.mem_of_getElem? (i := 65) rfl))) (by decide)) (Cond.privateMethod_at (mvP hZ (hw _ (List.mem_of_getElem? (i := 66) rfl)) (args := #[]))) (mvT hZ (hw _ (List.mem_of_getElem? (i := 67) rfl))) (by decide) (backOf (W := 0) (rmGr l Z a0 hw [] ao ab kb vs h0 n0 Z0 E0 Fb Fs V0 g0 ne0 hlen) hZ (hw _ (List.mem_of_getElem? (i := 67) rfl)) (hw _ (List.mem_of_getElem? (i := 3) rfl)) (by decide) (by decide)) (g := (mkF m 16 #[.val (.ref ao), .val (.int (100 : Int32))] [(.int (100 : Int32)), (.ref ao)])) rfl (by rw [hml]; rfl) (Steps.refl _) (a := ao) (by rw [e62]; exact q64) q64' (argsL := [(.int (100 : Int32))]) (rest := []) (lenOf pd__I_V rfl) rfl (by show 2 * 0 + _ ≤ _; exact Nat.le_of_eq rfl) (hb hby d4_16) (fun _ _ => ⟨rfl, e62, (by decide : 0 + 1 ≤ _), (by decide : 0 + 128 ≤ _)⟩)
  dsimp only [Pt.U, Pt.locs, Pt.cells, Pt.slots] at X64 l64 y64 z64 st64 hQ64
  subst l64 y64 z64
  obtain ⟨h64, e64⟩ : ∃ h, T64.heap = h := ⟨_, rfl⟩
  rw [e64] at hQ64
  obtain ⟨aq_64, kq_64, vq_64, rfl, Nq64, Kq64, sz__64, E1_64, Fb1_64, Fs1_64, V1_64, pl_64⟩ := hQ64
  have N64 := Fr.app N0 Nq64
  have Z64 : n0 ≤ h64.size := Nat.le_trans Z0 Kq64.1
  have KK64 : Keep h0 h64 [ao] := (Keep.refl h0 [ao]).trans Kq64 (allS (Or.inl (List.mem_of_getElem? (i := 0) rfl)) all0)
  have g_aq_64 : n0 ≤ aq_64 := Nat.le_trans Z0 sz__64
  have sz_aq_64 : h0.size ≤ aq_64 := Nat.le_trans (Keep.refl h0 [ao]).1 sz__64
  have ne_ab_aq_64 : ab ≠ aq_64 := Nat.ne_of_lt (Nat.lt_of_lt_of_le V0.lt sz__64)
  have ne_ao_aq_64 : ao ≠ aq_64 := Nat.ne_of_lt (Nat.lt_of_lt_of_le E0.lt sz__64)
  refine Go.trans st64 ?_
  show Go _ _ _ _ _ _ _ T64 (mkF m 19 #[.val (.ref ao), .val (.int (100 : Int32))] [])
  exact Go.ret0 X64 hx hret hlk (hb hby d4_19) e64 (by decide) (by decide) ⟨aq_64, kq_64, vq_64, rfl, N64, KK64, sz_aq_64, E1_64, Fb1_64, Fs1_64, V1_64, pl_64⟩
def own_cpb (bs vs : List Value) : List Value := vs.take (1 : Int32).toNatClampNeg ++ (List.range (100 : Int32).toNatClampNeg).map (fun i => bs.getD ((0 : Int32).toNatClampNeg + i) (Value.int 0)) ++ vs.drop ((1 : Int32).toNatClampNeg + (100 : Int32).toNatClampNeg)
theorem own_cpb_len {bs vs : List Value} (h : vs.length = (128 : Int32).toNatClampNeg) : (own_cpb bs vs).length = (128 : Int32).toNatClampNeg := by
  have e1 : (1 : Int32).toNatClampNeg = 1 := rfl; have e2 : (100 : Int32).toNatClampNeg = 100 := rfl; have e3 : (128 : Int32).toNatClampNeg = 128 := rfl
  rw [e3] at h ⊢; simp [own_cpb, e1, e2, h]
theorem d12_0 : decode prog_38_method_8_code 0 = .ok (.aload_n 0, 1) := by decide +kernel
theorem d12_1 : decode prog_38_method_8_code 1 = .ok (.aload_n 1, 1) := by decide +kernel
theorem d12_2 : decode prog_38_method_8_code 2 = .ok (.arraylength, 1) := by decide +kernel
theorem d12_3 : decode prog_38_method_8_code 3 = .ok (.invokevirtual 64, 3) := by decide +kernel
theorem d12_6 : decode prog_38_method_8_code 6 = .ok (.aload_n 1, 1) := by decide +kernel
theorem d12_7 : decode prog_38_method_8_code 7 = .ok (.iconst 0, 1) := by decide +kernel
theorem d12_8 : decode prog_38_method_8_code 8 = .ok (.aload_n 0, 1) := by decide +kernel
theorem d12_9 : decode prog_38_method_8_code 9 = .ok (.getfield 11, 3) := by decide +kernel
theorem d12_12 : decode prog_38_method_8_code 12 = .ok (.aload_n 0, 1) := by decide +kernel
theorem d12_13 : decode prog_38_method_8_code 13 = .ok (.getfield 15, 3) := by decide +kernel
theorem d12_16 : decode prog_38_method_8_code 16 = .ok (.aload_n 1, 1) := by decide +kernel
theorem d12_17 : decode prog_38_method_8_code 17 = .ok (.arraylength, 1) := by decide +kernel
theorem d12_18 : decode prog_38_method_8_code 18 = .ok (.invokestatic 58, 3) := by decide +kernel
theorem d12_21 : decode prog_38_method_8_code 21 = .ok (.aload_n 0, 1) := by decide +kernel
theorem d12_22 : decode prog_38_method_8_code 22 = .ok (.dup, 1) := by decide +kernel
theorem d12_23 : decode prog_38_method_8_code 23 = .ok (.getfield 15, 3) := by decide +kernel
theorem d12_26 : decode prog_38_method_8_code 26 = .ok (.aload_n 1, 1) := by decide +kernel
theorem d12_27 : decode prog_38_method_8_code 27 = .ok (.arraylength, 1) := by decide +kernel
theorem d12_28 : decode prog_38_method_8_code 28 = .ok (.iadd, 1) := by decide +kernel
theorem d12_29 : decode prog_38_method_8_code 29 = .ok (.putfield 15, 3) := by decide +kernel
theorem d12_32 : decode prog_38_method_8_code 32 = .ok (.return_, 1) := by decide +kernel
theorem ef_rmWs (m : MethodId) (ao : Addr) (ag : Addr) : entryFrame m #[(.ref ao), (.ref ag)] 2 = mkF m 0 #[.val (.ref ao), .val (.ref ag)] [] := by first | (simp [entryFrame, mkF, argsToLocals, Value.category]; done) | rfl
def Q_rmWs (Z : State) (ao : Addr) (ag : Addr) (ab : Addr) (kb : ClassId) (vs : List Value) (kg : ClassId) (bs : List Value) (h0 : Heap) (n0 : Nat) (v : Option Value) (h : Heap) (L : List Loc) : Prop := ∃ aq : Addr, ∃ kq : ClassId, ∃ vq : List Value, (v = none) ∧ (Fr n0 L) ∧ (Keep h0 h [ao]) ∧ (h0.size ≤ aq) ∧ (Exa Z h ao "com/example/stitchwire/stitchwire/Output") ∧ (Fld Z h ao "com/example/stitchwire/stitchwire/Output" "buffer" "[B" (.ref aq)) ∧ (Fld Z h ao "com/example/stitchwire/stitchwire/Output" "size" "I" (.int (101 : Int32))) ∧ (Arv Z h aq kq .byte (128 : Int32) vq (.int (0 : Int32))) ∧ (vq.length = (128 : Int32).toNatClampNeg)
set_option maxRecDepth 65536 in
set_option maxHeartbeats 40000000 in
theorem rmWs (l : Launch) (Z : State) (a0 : Array Value) (hw : ∀ d ∈ tables_1, d.before a0 Z = true) (ws : List Jvm.Cond) (ao : Addr) (ag : Addr) (ab : Addr) (kb : ClassId) (vs : List Value) (kg : ClassId) (bs : List Value) (h0 : Heap) (n0 : Nat) (Z0 : n0 ≤ h0.size) (E0 : Exa Z h0 ao "com/example/stitchwire/stitchwire/Output") (Fb : Fld Z h0 ao "com/example/stitchwire/stitchwire/Output" "buffer" "[B" (.ref ab)) (Fs : Fld Z h0 ao "com/example/stitchwire/stitchwire/Output" "size" "I" (.int (1 : Int32))) (V0 : Arv Z h0 ab kb .byte (64 : Int32) vs (.int (0 : Int32))) (g0 : n0 ≤ ao) (ne0 : ao ≠ ab) (hlen : vs.length = (64 : Int32).toNatClampNeg) (g1 : n0 ≤ ab) (Vg : Arv Z h0 ag kg .byte (100 : Int32) bs (.int (0 : Int32))) (ne1 : ao ≠ ag) (ne2 : ab ≠ ag) :
    MetFree l (⟨"com/example/stitchwire/stitchwire/Output", "writeBytes", "([B)V"⟩ : MethodName) (head1 (Jvm.Cond.code (⟨"com/example/stitchwire/stitchwire/Output", "writeBytes", "([B)V"⟩ : MethodName) prog_38_method_8_code 2 none :: ws) ({ frames := 4, cells := 1, slots := 128, locals := 67 } : Room)) (fun aA U => aA = #[(.ref ao), (.ref ag)] ∧ Z.Warmed39 U.vm ∧ U.heap = h0) (fun _ _ _ _ _ => True) (fun _ U o U' => ∃ v L, o = .returned v ∧ Q_rmWs Z ao ag ab kb vs kg bs h0 n0 v U'.heap L ∧ FrameEnd U o U' L ({ frames := 4, cells := 1, slots := 128, locals := 67 } : Room).cells ({ frames := 4, cells := 1, slots := 128, locals := 67 } : Room).slots) := by
  refine MetFree.of_bodySF (plainFor_of_name pn_com_example_stitchwire_stitchwire_Output) hisR ?_
  intro p e s m args below meth c s₁ Bd hml0 hP hK
  obtain ⟨rfl, hZ, hh⟩ := hP
  have hx := Bd.exec
  have hby := Bd.bytes
  have hml : c.maxLocals = 2 := hml0
  have hown : s.vm.findClass "com/example/stitchwire/stitchwire/Output" = some m.cls := findClass_of_methodNamed Bd.named
  have hnm := (name_of_methodNamed Bd.named Bd.method).1
  have hret := Bd.returns
  have hlk : meth.locks = false := BodyLoose.notSynchronized Bd
  have X0 : Stand p l e ({ frames := 4, cells := 1, slots := 128, locals := 67 } : Room) s m #[(.ref ao), (.ref ag)] below meth c s₁ [] 0 0 := Stand.of_body Bd
  have e0 : s₁.heap = h0 := by rw [← hh, Bd.state]; rfl
  have N0 := Fr.nil n0
  suffices hgo : Go p e below s ({ frames := 4, cells := 1, slots := 128, locals := 67 } : Room).cells ({ frames := 4, cells := 1, slots := 128, locals := 67 } : Room).slots (Q_rmWs Z ao ag ab kb vs kg bs h0 n0) s₁ (mkF m 0 #[.val (.ref ao), .val (.ref ag)] []) from hgo.enter (ef_rmWs m ao ag)
  refine Go.step (fun _ k => XS.aloadN X0.here hx rfl (hb hby d12_0) rfl rfl k) ?_
  show Go _ _ _ _ _ _ _ s₁ (mkF m 1 #[.val (.ref ao), .val (.ref ag)] [(.ref ao)])
  refine Go.step (fun _ k => XS.aloadN X0.here hx rfl (hb hby d12_1) rfl rfl k) ?_
  show Go _ _ _ _ _ _ _ s₁ (mkF m 2 #[.val (.ref ao), .val (.ref ag)] [(.ref ag), (.ref ao)])
  obtain ⟨cl65, Ar65, -, S65, M65, -, -⟩ := id (Vg)
  have al65 := X0.arraylength hx (by rw [e0]; exact Ar65.1) (State.isArrayOf_alike hZ.alike Ar65.2.1) (g := (mkF m 2 #[.val (.ref ao), .val (.ref ag)] [(.ref ag), (.ref ao)])) rfl rfl (hb hby d12_2)
  rw [len_of S65 M65] at al65
  refine Go.step al65 ?_
  show Go _ _ _ _ _ _ _ s₁ (mkF m 3 #[.val (.ref ao), .val (.ref ag)] [(.int (100 : Int32)), (.ref ao)])
  obtain ⟨cq66, q66, q66'⟩ := E0.cell
  obtain ⟨_, _, ⟨T66, L66, k66, n66⟩, -, X66, ⟨Lc66, hQ66, l66, y66, z66⟩, st66⟩ := X0.privateBack hx (y := (⟨"com/example/stitchwire/stitchwire/Output", "ensureRoom", "(I)V"⟩ : MethodName)) hown (mvT hZ (hw _ (List.mem_of_getElem? (i := 17) rfl))) (mvT hZ (hw _ (List.mem_of_getElem? (i := 18) rfl))) (own_selp (mvT hZ (hw _ (List.mem_of_getElem? (i := 2) rfl))) (Cond.privateMethod_at (mvP hZ (hw _ (List.mem_of_getElem? (i := 19) rfl)) (args := #[]))) (mvT hZ (hw _ (List.mem_of_getElem? (i := 18) rfl))) (by decide)) (Cond.privateMethod_at (mvP hZ (hw _ (List.mem_of_getElem? (i := 19) rfl)) (args := #[]))) (mvT hZ (hw _ (List.mem_of_getElem? (i := 20) rfl))) (by decide) (backOf (W := 0) (rmEg l Z a0 hw [] ao ab kb vs h0 n0 Z0 E0 Fb Fs V0 g0 ne0 hlen) hZ (hw _ (List.mem_of_getElem? (i := 20) rfl)) (hw _ (List.mem_of_getElem? (i := 3) rfl)) (by decide) (by decide)) (g := (mkF m 3 #[.val (.ref ao), .val (.ref ag)] [(.int (100 : Int32)), (.ref ao)])) rfl (by rw [hml]; rfl) (Steps.refl _) (a := ao) (by rw [e0]; exact q66) q66' (argsL := [(.int (100 : Int32))]) (rest := []) (lenOf pd__I_V rfl) rfl (by show 2 * 0 + _ ≤ _; exact Nat.le_of_eq rfl) (hb hby d12_3) (fun _ _ => ⟨rfl, e0, (by decide : 0 + 1 ≤ _), (by decide : 0 + 128 ≤ _)⟩)
  dsimp only [Pt.U, Pt.locs, Pt.cells, Pt.slots] at X66 l66 y66 z66 st66 hQ66
  subst l66 y66 z66
  obtain ⟨h66, e66⟩ : ∃ h, T66.heap = h := ⟨_, rfl⟩
  rw [e66] at hQ66
  obtain ⟨aq_66, kq_66, vq_66, rfl, Nq66, Kq66, sz__66, E1_66, Fb1_66, Fs1_66, V1_66, pl_66⟩ := hQ66
  have N66 := Fr.app N0 Nq66
  have Z66 : n0 ≤ h66.size := Nat.le_trans Z0 Kq66.1
  have KK66 : Keep h0 h66 [ao] := (Keep.refl h0 [ao]).trans Kq66 (allS (Or.inl (List.mem_of_getElem? (i := 0) rfl)) all0)
  have g_aq_66 : n0 ≤ aq_66 := Nat.le_trans Z0 sz__66
  have sz_aq_66 : h0.size ≤ aq_66 := Nat.le_trans (Keep.refl h0 [ao]).1 sz__66
  have ne_ab_aq_66 : ab ≠ aq_66 := Nat.ne_of_lt (Nat.lt_of_lt_of_le V0.lt sz__66)
  have ne_ag_aq_66 : ag ≠ aq_66 := Nat.ne_of_lt (Nat.lt_of_lt_of_le Vg.lt sz__66)
  have ne_ao_aq_66 : ao ≠ aq_66 := Nat.ne_of_lt (Nat.lt_of_lt_of_le E0.lt sz__66)
  refine Go.trans st66 ?_
  show Go _ _ _ _ _ _ _ T66 (mkF m 6 #[.val (.ref ao), .val (.ref ag)] [])
  refine Go.step (fun _ k => XS.aloadN X66.here hx rfl (hb hby d12_6) rfl rfl k) ?_
  show Go _ _ _ _ _ _ _ T66 (mkF m 7 #[.val (.ref ao), .val (.ref ag)] [(.ref ag)])
  refine Go.step (fun _ k => XS.iconst X66.here hx rfl (hb hby d12_7) k) ?_
  show Go _ _ _ _ _ _ _ T66 (mkF m 8 #[.val (.ref ao), .val (.ref ag)] [(.int (0 : Int32)), (.ref ag)])
  refine Go.step (fun _ k => XS.aloadN X66.here hx rfl (hb hby d12_8) rfl rfl k) ?_
  show Go _ _ _ _ _ _ _ T66 (mkF m 9 #[.val (.ref ao), .val (.ref ag)] [(.ref ao), (.int (0 : Int32)), (.ref ag)])
  obtain ⟨T67, X67, e67, st67⟩ := getF X66 hx hZ hown (host := "") (Or.inl (hw _ (List.mem_of_getElem? (i := 10) rfl))) Via.refl e66 Fb1_66 (g := (mkF m 9 #[.val (.ref ao), .val (.ref ag)] [(.ref ao), (.int (0 : Int32)), (.ref ag)])) rfl rfl (hb hby d12_9)
  refine Go.step st67 ?_
  show Go _ _ _ _ _ _ _ T67 (mkF m 12 #[.val (.ref ao), .val (.ref ag)] [(.ref aq_66), (.int (0 : Int32)), (.ref ag)])
  refine Go.step (fun _ k => XS.aloadN X67.here hx rfl (hb hby d12_12) rfl rfl k) ?_
  show Go _ _ _ _ _ _ _ T67 (mkF m 13 #[.val (.ref ao), .val (.ref ag)] [(.ref ao), (.ref aq_66), (.int (0 : Int32)), (.ref ag)])
  obtain ⟨T68, X68, e68, st68⟩ := getF X67 hx hZ hown (host := "") (Or.inl (hw _ (List.mem_of_getElem? (i := 21) rfl))) Via.refl e67 Fs1_66 (g := (mkF m 13 #[.val (.ref ao), .val (.ref ag)] [(.ref ao), (.ref aq_66), (.int (0 : Int32)), (.ref ag)])) rfl rfl (hb hby d12_13)
  refine Go.step st68 ?_
  show Go _ _ _ _ _ _ _ T68 (mkF m 16 #[.val (.ref ao), .val (.ref ag)] [(.int (1 : Int32)), (.ref aq_66), (.int (0 : Int32)), (.ref ag)])
  refine Go.step (fun _ k => XS.aloadN X68.here hx rfl (hb hby d12_16) rfl rfl k) ?_
  show Go _ _ _ _ _ _ _ T68 (mkF m 17 #[.val (.ref ao), .val (.ref ag)] [(.ref ag), (.int (1 : Int32)), (.ref aq_66), (.int (0 : Int32)), (.ref ag)])
  have f69 : Arv Z h66 ag kg .byte (100 : Int32) bs (.int (0 : Int32)) := (Vg.keep Kq66 (ninS (Ne.symm ne1) nin0))
  obtain ⟨cl70, Ar70, -, S70, M70, -, -⟩ := id (f69)
  have al70 := X68.arraylength hx (by rw [e68]; exact Ar70.1) (State.isArrayOf_alike hZ.alike Ar70.2.1) (g := (mkF m 17 #[.val (.ref ao), .val (.ref ag)] [(.ref ag), (.int (1 : Int32)), (.ref aq_66), (.int (0 : Int32)), (.ref ag)])) rfl rfl (hb hby d12_17)
  rw [len_of S70 M70] at al70
  refine Go.step al70 ?_
  show Go _ _ _ _ _ _ _ T68 (mkF m 18 #[.val (.ref ao), .val (.ref ag)] [(.int (100 : Int32)), (.int (1 : Int32)), (.ref aq_66), (.int (0 : Int32)), (.ref ag)])
  obtain ⟨T71, h71, L71, X71, e71, N71, Kc71, V71, st71⟩ := cpA X68 hx hZ hown (hw _ (List.mem_of_getElem? (i := 76) rfl)) (hw _ (List.mem_of_getElem? (i := 49) rfl)) (hw _ (List.mem_of_getElem? (i := 47) rfl)) (hw _ (List.mem_of_getElem? (i := 48) rfl)) e68 (sp := (0 : Int32)) (dp := (1 : Int32)) (nn := (100 : Int32)) f69 V1_66 (Or.inl ⟨rfl, rfl⟩) (by decide) (by decide) (by decide) (by decide) (by decide) rfl (by rw [pl_66]; decide) N66 g_aq_66 (g := (mkF m 18 #[.val (.ref ao), .val (.ref ag)] [(.int (100 : Int32)), (.int (1 : Int32)), (.ref aq_66), (.int (0 : Int32)), (.ref ag)])) rfl (by rw [hml]; rfl) rfl (hb hby d12_18) (by decide) (W := 0) (by show 2 * 0 + _ ≤ _; exact Nat.le_of_eq rfl) (by decide)
  refine Go.step st71 ?_
  have Z71 : n0 ≤ h71.size := Nat.le_trans Z66 Kc71.1
  have KK71 : Keep h0 h71 [ao] := KK66.trans Kc71 (allS (Or.inr sz_aq_66) all0)
  have Vc71 : Arv Z h71 aq_66 kq_66 .byte (128 : Int32) (own_cpb bs vq_66) (.int (0 : Int32)) := V71
  show Go _ _ _ _ _ _ _ T71 (mkF m 21 #[.val (.ref ao), .val (.ref ag)] [])
  refine Go.step (fun _ k => XS.aloadN X71.here hx rfl (hb hby d12_21) rfl rfl k) ?_
  show Go _ _ _ _ _ _ _ T71 (mkF m 22 #[.val (.ref ao), .val (.ref ag)] [(.ref ao)])
  refine Go.step (fun _ k => XS.dup X71.here hx rfl (hb hby d12_22) rfl rfl k) ?_
  show Go _ _ _ _ _ _ _ T71 (mkF m 23 #[.val (.ref ao), .val (.ref ag)] [(.ref ao), (.ref ao)])
  have f72 : Fld Z h71 ao "com/example/stitchwire/stitchwire/Output" "size" "I" (.int (1 : Int32)) := (Fs1_66.keep Kc71 (ninS ne_ao_aq_66 nin0))
  obtain ⟨T73, X73, e73, st73⟩ := getF X71 hx hZ hown (host := "") (Or.inl (hw _ (List.mem_of_getElem? (i := 21) rfl))) Via.refl e71 f72 (g := (mkF m 23 #[.val (.ref ao), .val (.ref ag)] [(.ref ao), (.ref ao)])) rfl rfl (hb hby d12_23)
  refine Go.step st73 ?_
  show Go _ _ _ _ _ _ _ T73 (mkF m 26 #[.val (.ref ao), .val (.ref ag)] [(.int (1 : Int32)), (.ref ao)])
  refine Go.step (fun _ k => XS.aloadN X73.here hx rfl (hb hby d12_26) rfl rfl k) ?_
  show Go _ _ _ _ _ _ _ T73 (mkF m 27 #[.val (.ref ao), .val (.ref ag)] [(.ref ag), (.int (1 : Int32)), (.ref ao)])
  have f74 : Arv Z h71 ag kg .byte (100 : Int32) bs (.int (0 : Int32)) := (f69.keep Kc71 (ninS ne_ag_aq_66 nin0))
  obtain ⟨cl75, Ar75, -, S75, M75, -, -⟩ := id (f74)
  have al75 := X73.arraylength hx (by rw [e73]; exact Ar75.1) (State.isArrayOf_alike hZ.alike Ar75.2.1) (g := (mkF m 27 #[.val (.ref ao), .val (.ref ag)] [(.ref ag), (.int (1 : Int32)), (.ref ao)])) rfl rfl (hb hby d12_27)
  rw [len_of S75 M75] at al75
  refine Go.step al75 ?_
  show Go _ _ _ _ _ _ _ T73 (mkF m 28 #[.val (.ref ao), .val (.ref ag)] [(.int (100 : Int32)), (.int (1 : Int32)), (.ref ao)])
  refine Go.step (fun _ k => XS.iadd X73.here hx rfl (hb hby d12_28) rfl k) ?_
  show Go _ _ _ _ _ _ _ T73 (mkF m 29 #[.val (.ref ao), .val (.ref ag)] [(.int (101 : Int32)), (.ref ao)])
  have f76 : Exa Z h71 ao "com/example/stitchwire/stitchwire/Output" := (E1_66.keep Kc71)
  obtain ⟨T77, h77, X77, e77, W77, st77⟩ := putF X73 hx hZ hown (host := "") (Or.inl (hw _ (List.mem_of_getElem? (i := 21) rfl))) Via.refl e73 f72 f76 (Or.inl (hw _ (List.mem_of_getElem? (i := 22) rfl))) (hw _ (List.mem_of_getElem? (i := 2) rfl)) (ty := .int) (by decide) rfl rfl (g := (mkF m 29 #[.val (.ref ao), .val (.ref ag)] [(.int (101 : Int32)), (.ref ao)])) rfl rfl (hb hby d12_29)
  refine Go.step st77 ?_
  have Fw77 := f72.same W77
  have N77 := Fr.snoc X77 N71 g0
  have Z77 : n0 ≤ h77.size := Nat.le_trans Z71 (Keep.of_wr W77).1
  have KK77 : Keep h0 h77 [ao] := KK71.wr W77 (Or.inl (List.mem_of_getElem? (i := 0) rfl))
  show Go _ _ _ _ _ _ _ T77 (mkF m 32 #[.val (.ref ao), .val (.ref ag)] [])
  have f78 : Exa Z h77 ao "com/example/stitchwire/stitchwire/Output" := (f76.wr W77)
  have f79 : Fld Z h77 ao "com/example/stitchwire/stitchwire/Output" "buffer" "[B" (.ref aq_66) := ((Fb1_66.keep Kc71 (ninS ne_ao_aq_66 nin0)).other W77 (Or.inr (slot_ne (a0 := a0) (C := "com/example/stitchwire/stitchwire/Output") (Or.inl (hw _ (List.mem_of_getElem? (i := 11) rfl))) (Or.inl (hw _ (List.mem_of_getElem? (i := 22) rfl))) (by decide) (t := (.array .byte)) (t' := .int) (by decide) (by decide))))
  have f80 : Arv Z h77 aq_66 kq_66 .byte (128 : Int32) (own_cpb bs vq_66) (.int (0 : Int32)) := (Vc71.other W77 (Ne.symm ne_ao_aq_66))
  exact Go.ret0 X77 hx hret hlk (hb hby d12_32) e77 (by decide) (by decide) ⟨aq_66, kq_66, (own_cpb bs vq_66), rfl, N77, KK77, sz_aq_66, f78, f79, Fw77, f80, (own_cpb_len pl_66)⟩
theorem d5_0 : decode prog_38_method_3_code 0 = .ok (.aload_n 0, 1) := by decide +kernel
theorem d5_1 : decode prog_38_method_3_code 1 = .ok (.iconst 0, 1) := by decide +kernel
theorem d5_2 : decode prog_38_method_3_code 2 = .ok (.putfield 15, 3) := by decide +kernel
theorem d5_5 : decode prog_38_method_3_code 5 = .ok (.aload_n 0, 1) := by decide +kernel
theorem d5_6 : decode prog_38_method_3_code 6 = .ok (.getfield 11, 3) := by decide +kernel
theorem d5_9 : decode prog_38_method_3_code 9 = .ok (.arraylength, 1) := by decide +kernel
theorem d5_10 : decode prog_38_method_3_code 10 = .ok (.iload_n 1, 1) := by decide +kernel
theorem d5_11 : decode prog_38_method_3_code 11 = .ok (.if_icmp .le 11, 3) := by decide +kernel
theorem d5_14 : decode prog_38_method_3_code 14 = .ok (.aload_n 0, 1) := by decide +kernel
theorem d5_15 : decode prog_38_method_3_code 15 = .ok (.bipush 64, 2) := by decide +kernel
theorem d5_17 : decode prog_38_method_3_code 17 = .ok (.newarray .byte, 2) := by decide +kernel
theorem d5_19 : decode prog_38_method_3_code 19 = .ok (.putfield 11, 3) := by decide +kernel
theorem d5_22 : decode prog_38_method_3_code 22 = .ok (.return_, 1) := by decide +kernel
theorem ef_rmCl (m : MethodId) (ao : Addr) (kp : Int32) : entryFrame m #[(.ref ao), (.int kp)] 2 = mkF m 0 #[.val (.ref ao), .val (.int kp)] [] := by first | (simp [entryFrame, mkF, argsToLocals, Value.category]; done) | rfl
def Q_rmCl (Z : State) (ao : Addr) (kp : Int32) (ab : Addr) (kb : ClassId) (nN : Int32) (sz : Int32) (vs : List Value) (h0 : Heap) (n0 : Nat) (v : Option Value) (h : Heap) (L : List Loc) : Prop := ∃ aq : Addr, ∃ kq : ClassId, ∃ nq : Int32, ∃ vq : List Value, (v = none) ∧ (Fr n0 L) ∧ (Keep h0 h [ao]) ∧ (n0 ≤ aq) ∧ (ao ≠ aq) ∧ (Exa Z h ao "com/example/stitchwire/stitchwire/Output") ∧ (Fld Z h ao "com/example/stitchwire/stitchwire/Output" "buffer" "[B" (.ref aq)) ∧ (Fld Z h ao "com/example/stitchwire/stitchwire/Output" "size" "I" (.int (0 : Int32))) ∧ (Arv Z h aq kq .byte nq vq (.int (0 : Int32))) ∧ (vq.length = nq.toNatClampNeg) ∧ (¬ (nq < (64 : Int32)))
set_option maxRecDepth 65536 in
set_option maxHeartbeats 40000000 in
theorem rmCl (l : Launch) (Z : State) (a0 : Array Value) (hw : ∀ d ∈ tables_1, d.before a0 Z = true) (ws : List Jvm.Cond) (ao : Addr) (kp : Int32) (ab : Addr) (kb : ClassId) (nN : Int32) (sz : Int32) (vs : List Value) (h0 : Heap) (n0 : Nat) (Z0 : n0 ≤ h0.size) (E0 : Exa Z h0 ao "com/example/stitchwire/stitchwire/Output") (Fb : Fld Z h0 ao "com/example/stitchwire/stitchwire/Output" "buffer" "[B" (.ref ab)) (Fs : Fld Z h0 ao "com/example/stitchwire/stitchwire/Output" "size" "I" (.int sz)) (V0 : Arv Z h0 ab kb .byte nN vs (.int (0 : Int32))) (g0 : n0 ≤ ao) (g1 : n0 ≤ ab) (ne0 : ao ≠ ab) (hlen : vs.length = nN.toNatClampNeg) (h64 : ¬ (nN < (64 : Int32))) :
    MetFree l (⟨"com/example/stitchwire/stitchwire/Output", "clear", "(I)V"⟩ : MethodName) (head1 (Jvm.Cond.code (⟨"com/example/stitchwire/stitchwire/Output", "clear", "(I)V"⟩ : MethodName) prog_38_method_3_code 2 none :: ws) ({ frames := 0, cells := 1, slots := 64, locals := 0 } : Room)) (fun aA U => aA = #[(.ref ao), (.int kp)] ∧ Z.Warmed39 U.vm ∧ U.heap = h0) (fun _ _ _ _ _ => True) (fun _ U o U' => ∃ v L, o = .returned v ∧ Q_rmCl Z ao kp ab kb nN sz vs h0 n0 v U'.heap L ∧ FrameEnd U o U' L ({ frames := 0, cells := 1, slots := 64, locals := 0 } : Room).cells ({ frames := 0, cells := 1, slots := 64, locals := 0 } : Room).slots) := by
  refine MetFree.of_bodySF (plainFor_of_name pn_com_example_stitchwire_stitchwire_Output) hisR ?_
  intro p e s m args below meth c s₁ Bd hml0 hP hK
  obtain ⟨rfl, hZ, hh⟩ := hP
  have hx := Bd.exec
  have hby := Bd.bytes
  have hml : c.maxLocals = 2 := hml0
  have hown : s.vm.findClass "com/example/stitchwire/stitchwire/Output" = some m.cls := findClass_of_methodNamed Bd.named
  have hnm := (name_of_methodNamed Bd.named Bd.method).1
  have hret := Bd.returns
  have hlk : meth.locks = false := BodyLoose.notSynchronized Bd
  have X0 : Stand p l e ({ frames := 0, cells := 1, slots := 64, locals := 0 } : Room) s m #[(.ref ao), (.int kp)] below meth c s₁ [] 0 0 := Stand.of_body Bd
  have e0 : s₁.heap = h0 := by rw [← hh, Bd.state]; rfl
  have N0 := Fr.nil n0
  suffices hgo : Go p e below s ({ frames := 0, cells := 1, slots := 64, locals := 0 } : Room).cells ({ frames := 0, cells := 1, slots := 64, locals := 0 } : Room).slots (Q_rmCl Z ao kp ab kb nN sz vs h0 n0) s₁ (mkF m 0 #[.val (.ref ao), .val (.int kp)] []) from hgo.enter (ef_rmCl m ao kp)
  refine Go.step (fun _ k => XS.aloadN X0.here hx rfl (hb hby d5_0) rfl rfl k) ?_
  show Go _ _ _ _ _ _ _ s₁ (mkF m 1 #[.val (.ref ao), .val (.int kp)] [(.ref ao)])
  refine Go.step (fun _ k => XS.iconst X0.here hx rfl (hb hby d5_1) k) ?_
  show Go _ _ _ _ _ _ _ s₁ (mkF m 2 #[.val (.ref ao), .val (.int kp)] [(.int (0 : Int32)), (.ref ao)])
  obtain ⟨T81, h81, X81, e81, W81, st81⟩ := putF X0 hx hZ hown (host := "") (Or.inl (hw _ (List.mem_of_getElem? (i := 21) rfl))) Via.refl e0 Fs E0 (Or.inl (hw _ (List.mem_of_getElem? (i := 22) rfl))) (hw _ (List.mem_of_getElem? (i := 2) rfl)) (ty := .int) (by decide) rfl rfl (g := (mkF m 2 #[.val (.ref ao), .val (.int kp)] [(.int (0 : Int32)), (.ref ao)])) rfl rfl (hb hby d5_2)
  refine Go.step st81 ?_
  have Fw81 := Fs.same W81
  have N81 := Fr.snoc X81 N0 g0
  have Z81 : n0 ≤ h81.size := Nat.le_trans Z0 (Keep.of_wr W81).1
  have KK81 : Keep h0 h81 [ao] := (Keep.refl h0 [ao]).wr W81 (Or.inl (List.mem_of_getElem? (i := 0) rfl))
  show Go _ _ _ _ _ _ _ T81 (mkF m 5 #[.val (.ref ao), .val (.int kp)] [])
  refine Go.step (fun _ k => XS.aloadN X81.here hx rfl (hb hby d5_5) rfl rfl k) ?_
  show Go _ _ _ _ _ _ _ T81 (mkF m 6 #[.val (.ref ao), .val (.int kp)] [(.ref ao)])
  have f82 : Fld Z h81 ao "com/example/stitchwire/stitchwire/Output" "buffer" "[B" (.ref ab) := (Fb.other W81 (Or.inr (slot_ne (a0 := a0) (C := "com/example/stitchwire/stitchwire/Output") (Or.inl (hw _ (List.mem_of_getElem? (i := 11) rfl))) (Or.inl (hw _ (List.mem_of_getElem? (i := 22) rfl))) (by decide) (t := (.array .byte)) (t' := .int) (by decide) (by decide))))
  obtain ⟨T83, X83, e83, st83⟩ := getF X81 hx hZ hown (host := "") (Or.inl (hw _ (List.mem_of_getElem? (i := 10) rfl))) Via.refl e81 f82 (g := (mkF m 6 #[.val (.ref ao), .val (.int kp)] [(.ref ao)])) rfl rfl (hb hby d5_6)
  refine Go.step st83 ?_
  show Go _ _ _ _ _ _ _ T83 (mkF m 9 #[.val (.ref ao), .val (.int kp)] [(.ref ab)])
  have f84 : Arv Z h81 ab kb .byte nN vs (.int (0 : Int32)) := (V0.other W81 (Ne.symm ne0))
  obtain ⟨cl85, Ar85, -, S85, M85, -, -⟩ := id (f84)
  have al85 := X83.arraylength hx (by rw [e83]; exact Ar85.1) (State.isArrayOf_alike hZ.alike Ar85.2.1) (g := (mkF m 9 #[.val (.ref ao), .val (.int kp)] [(.ref ab)])) rfl rfl (hb hby d5_9)
  rw [len_of S85 M85] at al85
  refine Go.step al85 ?_
  show Go _ _ _ _ _ _ _ T83 (mkF m 10 #[.val (.ref ao), .val (.int kp)] [(.int nN)])
  refine Go.step (fun _ k => XS.iloadN X83.here hx rfl (hb hby d5_10) rfl k) ?_
  show Go _ _ _ _ _ _ _ T83 (mkF m 11 #[.val (.ref ao), .val (.int kp)] [(.int kp), (.int nN)])
  by_cases hc11_86 : kp < nN
  · refine Go.step (fun _ k => XS.icmpNo X83.here hx rfl (hb hby d5_11) rfl (tlt hc11_86).2.2.2 k) ?_
    show Go _ _ _ _ _ _ _ T83 (mkF m 14 #[.val (.ref ao), .val (.int kp)] [])
    refine Go.step (fun _ k => XS.aloadN X83.here hx rfl (hb hby d5_14) rfl rfl k) ?_
    show Go _ _ _ _ _ _ _ T83 (mkF m 15 #[.val (.ref ao), .val (.int kp)] [(.ref ao)])
    refine Go.step (fun _ k => XS.bipush X83.here hx rfl (hb hby d5_15) k) ?_
    show Go _ _ _ _ _ _ _ T83 (mkF m 17 #[.val (.ref ao), .val (.int kp)] [(.int (64 : Int32)), (.ref ao)])
    have f88 : Exa Z h81 ao "com/example/stitchwire/stitchwire/Output" := (E0.wr W81)
    obtain ⟨T87, h87, k87, X87, e87, E87, A87, st87⟩ := newP X83 hx hZ (hw _ (List.mem_of_getElem? (i := 0) rfl)) e83 (g := (mkF m 17 #[.val (.ref ao), .val (.int kp)] [(.int (64 : Int32)), (.ref ao)])) rfl (hb hby d5_17) rfl (by decide) (cap := 64) (by decide) (by decide) (by decide) (by decide)
    obtain ⟨b87, g87⟩ : ∃ z, z = h81.size := ⟨_, rfl⟩
    rw [← g87] at A87 st87
    refine Go.step st87 ?_
    have g_b87 : n0 ≤ b87 := Nat.le_trans Z81 (Nat.le_of_eq g87.symm)
    have sz_b87 : h0.size ≤ b87 := Nat.le_trans KK81.1 (Nat.le_of_eq g87.symm)
    have ne_ab_b87 : ab ≠ b87 := Nat.ne_of_lt (Nat.lt_of_lt_of_le f84.lt (Nat.le_of_eq g87.symm))
    have ne_ao_b87 : ao ≠ b87 := Nat.ne_of_lt (Nat.lt_of_lt_of_le f88.lt (Nat.le_of_eq g87.symm))
    have Z87 : n0 ≤ h87.size := Nat.le_trans Z81 E87.1
    have KK87 : Keep h0 h87 [ao] := KK81.ext E87
    have V87 : Arv Z h87 b87 k87 .byte (64 : Int32) [] (.int (0 : Int32)) := Arv.new A87 (by decide)
    have V89 : Arv Z h87 b87 k87 .byte (64 : Int32) (List.replicate 64 (.int (0 : Int32))) (.int (0 : Int32)) := (V87).pad (pad_rep [] (.int (0 : Int32)) 64)
    show Go _ _ _ _ _ _ _ T87 (mkF m 19 #[.val (.ref ao), .val (.int kp)] [(.ref b87), (.ref ao)])
    have f90 : Fld Z h87 ao "com/example/stitchwire/stitchwire/Output" "buffer" "[B" (.ref ab) := (f82.ext E87)
    have f91 : Exa Z h87 ao "com/example/stitchwire/stitchwire/Output" := (f88.ext E87)
    obtain ⟨T92, h92, X92, e92, W92, st92⟩ := putF X87 hx hZ hown (host := "") (Or.inl (hw _ (List.mem_of_getElem? (i := 10) rfl))) Via.refl e87 f90 f91 (Or.inl (hw _ (List.mem_of_getElem? (i := 11) rfl))) (hw _ (List.mem_of_getElem? (i := 2) rfl)) (ty := (.array .byte)) (by decide) rfl rfl (g := (mkF m 19 #[.val (.ref ao), .val (.int kp)] [(.ref b87), (.ref ao)])) rfl rfl (hb hby d5_19)
    refine Go.step st92 ?_
    have Fw92 := f90.same W92
    have N92 := Fr.snoc X92 N81 g0
    have Z92 : n0 ≤ h92.size := Nat.le_trans Z87 (Keep.of_wr W92).1
    have KK92 : Keep h0 h92 [ao] := KK87.wr W92 (Or.inl (List.mem_of_getElem? (i := 0) rfl))
    show Go _ _ _ _ _ _ _ T92 (mkF m 22 #[.val (.ref ao), .val (.int kp)] [])
    have f93 : Exa Z h92 ao "com/example/stitchwire/stitchwire/Output" := (f91.wr W92)
    have f94 : Fld Z h92 ao "com/example/stitchwire/stitchwire/Output" "size" "I" (.int (0 : Int32)) := ((Fw81.ext E87).other W92 (Or.inr (slot_ne (a0 := a0) (C := "com/example/stitchwire/stitchwire/Output") (Or.inl (hw _ (List.mem_of_getElem? (i := 22) rfl))) (Or.inl (hw _ (List.mem_of_getElem? (i := 11) rfl))) (by decide) (t := .int) (t' := (.array .byte)) (by decide) (by decide))))
    have f95 : Arv Z h92 b87 k87 .byte (64 : Int32) (List.replicate 64 (.int (0 : Int32))) (.int (0 : Int32)) := (V89.other W92 (Ne.symm ne_ao_b87))
    exact Go.ret0 X92 hx hret hlk (hb hby d5_22) e92 (by decide) (by decide) ⟨b87, k87, (64 : Int32), (List.replicate 64 (.int (0 : Int32))), rfl, N92, KK92, g_b87, ne_ao_b87, f93, Fw92, f94, f95, (by rw [List.length_replicate]; rfl), (by decide)⟩
  · refine Go.step (fun _ k => XS.icmpYes X83.here hx rfl (pc0 := 11) (pc' := 22) rfl (hb hby d5_11) rfl (flt hc11_86).2.2.2 (by decide) (by decide) k) ?_
    show Go _ _ _ _ _ _ _ T83 (mkF m 22 #[.val (.ref ao), .val (.int kp)] [])
    have f96 : Exa Z h81 ao "com/example/stitchwire/stitchwire/Output" := (E0.wr W81)
    exact Go.ret0 X83 hx hret hlk (hb hby d5_22) e83 (by decide) (by decide) ⟨ab, kb, nN, vs, rfl, N81, KK81, g1, ne0, f96, f82, Fw81, f84, hlen, h64⟩
theorem own_64 {n : Int32} {l : List Value} (h : ¬ n < (64 : Int32)) (e : l.length = n.toNatClampNeg) : 64 ≤ l.length := by
  rw [e]; have := own_tle h; exact this
theorem d11_0 : decode prog_38_method_32_code 0 = .ok (.aload_n 0, 1) := by decide +kernel
theorem d11_1 : decode prog_38_method_32_code 1 = .ok (.iload_n 3, 1) := by decide +kernel
theorem d11_2 : decode prog_38_method_32_code 2 = .ok (.invokevirtual 64, 3) := by decide +kernel
theorem d11_5 : decode prog_38_method_32_code 5 = .ok (.iconst 0, 1) := by decide +kernel
theorem d11_6 : decode prog_38_method_32_code 6 = .ok (.istore 4, 2) := by decide +kernel
theorem d11_8 : decode prog_38_method_32_code 8 = .ok (.iload 4, 2) := by decide +kernel
theorem d11_10 : decode prog_38_method_32_code 10 = .ok (.iload_n 3, 1) := by decide +kernel
theorem d11_11 : decode prog_38_method_32_code 11 = .ok (.if_icmp .ge 34, 3) := by decide +kernel
theorem d11_14 : decode prog_38_method_32_code 14 = .ok (.aload_n 0, 1) := by decide +kernel
theorem d11_15 : decode prog_38_method_32_code 15 = .ok (.getfield 11, 3) := by decide +kernel
theorem d11_18 : decode prog_38_method_32_code 18 = .ok (.aload_n 0, 1) := by decide +kernel
theorem d11_19 : decode prog_38_method_32_code 19 = .ok (.dup, 1) := by decide +kernel
theorem d11_20 : decode prog_38_method_32_code 20 = .ok (.getfield 15, 3) := by decide +kernel
theorem d11_23 : decode prog_38_method_32_code 23 = .ok (.dup_x1, 1) := by decide +kernel
theorem d11_24 : decode prog_38_method_32_code 24 = .ok (.iconst 1, 1) := by decide +kernel
theorem d11_25 : decode prog_38_method_32_code 25 = .ok (.iadd, 1) := by decide +kernel
theorem d11_26 : decode prog_38_method_32_code 26 = .ok (.putfield 15, 3) := by decide +kernel
theorem d11_29 : decode prog_38_method_32_code 29 = .ok (.lload_n 1, 1) := by decide +kernel
theorem d11_30 : decode prog_38_method_32_code 30 = .ok (.bipush 8, 2) := by decide +kernel
theorem d11_32 : decode prog_38_method_32_code 32 = .ok (.iload 4, 2) := by decide +kernel
theorem d11_34 : decode prog_38_method_32_code 34 = .ok (.imul, 1) := by decide +kernel
theorem d11_35 : decode prog_38_method_32_code 35 = .ok (.lushr, 1) := by decide +kernel
theorem d11_36 : decode prog_38_method_32_code 36 = .ok (.l2i, 1) := by decide +kernel
theorem d11_37 : decode prog_38_method_32_code 37 = .ok (.i2b, 1) := by decide +kernel
theorem d11_38 : decode prog_38_method_32_code 38 = .ok (.bastore, 1) := by decide +kernel
theorem d11_39 : decode prog_38_method_32_code 39 = .ok (.iinc 4 1, 3) := by decide +kernel
theorem d11_42 : decode prog_38_method_32_code 42 = .ok (.goto (-34), 3) := by decide +kernel
theorem d11_45 : decode prog_38_method_32_code 45 = .ok (.return_, 1) := by decide +kernel
theorem ef_rmLe (m : MethodId) (ao : Addr) (jv : Int64) : entryFrame m #[(.ref ao), (.long jv), (.int (8 : Int32))] 5 = mkF m 0 #[.val (.ref ao), .val (.long jv), .second, .val (.int (8 : Int32)), .unset] [] := by first | (simp [entryFrame, mkF, argsToLocals, Value.category]; done) | rfl
def Q_rmLe (Z : State) (ao : Addr) (jv : Int64) (ab : Addr) (kb : ClassId) (nN : Int32) (vs : List Value) (h0 : Heap) (n0 : Nat) (v : Option Value) (h : Heap) (L : List Loc) : Prop := (v = none) ∧ (Fr n0 L) ∧ (Keep h0 h [ao, ab]) ∧ (Exa Z h ao "com/example/stitchwire/stitchwire/Output") ∧ (Fld Z h ao "com/example/stitchwire/stitchwire/Output" "buffer" "[B" (.ref ab)) ∧ (Fld Z h ao "com/example/stitchwire/stitchwire/Output" "size" "I" (.int (9 : Int32))) ∧ (Arv Z h ab kb .byte nN ((((((((vs.set 1 (.int (nar .byte ((((jv.toUInt64 >>> ((0 : Int32) &&& 0x3f).toInt64.toUInt64).toInt64).toInt32).toInt8.toInt32)))).set 2 (.int (nar .byte ((((jv.toUInt64 >>> ((8 : Int32) &&& 0x3f).toInt64.toUInt64).toInt64).toInt32).toInt8.toInt32)))).set 3 (.int (nar .byte ((((jv.toUInt64 >>> ((16 : Int32) &&& 0x3f).toInt64.toUInt64).toInt64).toInt32).toInt8.toInt32)))).set 4 (.int (nar .byte ((((jv.toUInt64 >>> ((24 : Int32) &&& 0x3f).toInt64.toUInt64).toInt64).toInt32).toInt8.toInt32)))).set 5 (.int (nar .byte ((((jv.toUInt64 >>> ((32 : Int32) &&& 0x3f).toInt64.toUInt64).toInt64).toInt32).toInt8.toInt32)))).set 6 (.int (nar .byte ((((jv.toUInt64 >>> ((40 : Int32) &&& 0x3f).toInt64.toUInt64).toInt64).toInt32).toInt8.toInt32)))).set 7 (.int (nar .byte ((((jv.toUInt64 >>> ((48 : Int32) &&& 0x3f).toInt64.toUInt64).toInt64).toInt32).toInt8.toInt32)))).set 8 (.int (nar .byte ((((jv.toUInt64 >>> ((56 : Int32) &&& 0x3f).toInt64.toUInt64).toInt64).toInt32).toInt8.toInt32)))) (.int (0 : Int32)))
set_option maxRecDepth 65536 in
set_option maxHeartbeats 40000000 in
theorem rmLe (l : Launch) (Z : State) (a0 : Array Value) (hw : ∀ d ∈ tables_1, d.before a0 Z = true) (ws : List Jvm.Cond) (ao : Addr) (jv : Int64) (ab : Addr) (kb : ClassId) (nN : Int32) (vs : List Value) (h0 : Heap) (n0 : Nat) (Z0 : n0 ≤ h0.size) (E0 : Exa Z h0 ao "com/example/stitchwire/stitchwire/Output") (Fb : Fld Z h0 ao "com/example/stitchwire/stitchwire/Output" "buffer" "[B" (.ref ab)) (Fs : Fld Z h0 ao "com/example/stitchwire/stitchwire/Output" "size" "I" (.int (1 : Int32))) (V0 : Arv Z h0 ab kb .byte nN vs (.int (0 : Int32))) (g0 : n0 ≤ ao) (g1 : n0 ≤ ab) (ne0 : ao ≠ ab) (hlen : vs.length = nN.toNatClampNeg) (h64 : ¬ (nN < (64 : Int32))) (hn : ¬ ((nN - (1 : Int32)) < (8 : Int32))) :
    MetFree l (⟨"com/example/stitchwire/stitchwire/Output", "writeLittleEndian", "(JI)V"⟩ : MethodName) (head1 (Jvm.Cond.code (⟨"com/example/stitchwire/stitchwire/Output", "writeLittleEndian", "(JI)V"⟩ : MethodName) prog_38_method_32_code 5 none :: ws) ({ frames := 1, cells := 0, slots := 0, locals := 13 } : Room)) (fun aA U => aA = #[(.ref ao), (.long jv), (.int (8 : Int32))] ∧ Z.Warmed39 U.vm ∧ U.heap = h0) (fun _ _ _ _ _ => True) (fun _ U o U' => ∃ v L, o = .returned v ∧ Q_rmLe Z ao jv ab kb nN vs h0 n0 v U'.heap L ∧ FrameEnd U o U' L ({ frames := 1, cells := 0, slots := 0, locals := 13 } : Room).cells ({ frames := 1, cells := 0, slots := 0, locals := 13 } : Room).slots) := by
  refine MetFree.of_bodySF (plainFor_of_name pn_com_example_stitchwire_stitchwire_Output) hisR ?_
  intro p e s m args below meth c s₁ Bd hml0 hP hK
  obtain ⟨rfl, hZ, hh⟩ := hP
  have hx := Bd.exec
  have hby := Bd.bytes
  have hml : c.maxLocals = 5 := hml0
  have hown : s.vm.findClass "com/example/stitchwire/stitchwire/Output" = some m.cls := findClass_of_methodNamed Bd.named
  have hnm := (name_of_methodNamed Bd.named Bd.method).1
  have hret := Bd.returns
  have hlk : meth.locks = false := BodyLoose.notSynchronized Bd
  have X0 : Stand p l e ({ frames := 1, cells := 0, slots := 0, locals := 13 } : Room) s m #[(.ref ao), (.long jv), (.int (8 : Int32))] below meth c s₁ [] 0 0 := Stand.of_body Bd
  have e0 : s₁.heap = h0 := by rw [← hh, Bd.state]; rfl
  have N0 := Fr.nil n0
  suffices hgo : Go p e below s ({ frames := 1, cells := 0, slots := 0, locals := 13 } : Room).cells ({ frames := 1, cells := 0, slots := 0, locals := 13 } : Room).slots (Q_rmLe Z ao jv ab kb nN vs h0 n0) s₁ (mkF m 0 #[.val (.ref ao), .val (.long jv), .second, .val (.int (8 : Int32)), .unset] []) from hgo.enter (ef_rmLe m ao jv)
  refine Go.step (fun _ k => XS.aloadN X0.here hx rfl (hb hby d11_0) rfl rfl k) ?_
  show Go _ _ _ _ _ _ _ s₁ (mkF m 1 #[.val (.ref ao), .val (.long jv), .second, .val (.int (8 : Int32)), .unset] [(.ref ao)])
  refine Go.step (fun _ k => XS.iloadN X0.here hx rfl (hb hby d11_1) rfl k) ?_
  show Go _ _ _ _ _ _ _ s₁ (mkF m 2 #[.val (.ref ao), .val (.long jv), .second, .val (.int (8 : Int32)), .unset] [(.int (8 : Int32)), (.ref ao)])
  obtain ⟨cq97, q97, q97'⟩ := E0.cell
  obtain ⟨_, _, ⟨T97, L97, k97, n97⟩, -, X97, ⟨Lc97, hQ97, l97, y97, z97⟩, st97⟩ := X0.privateBack hx (y := (⟨"com/example/stitchwire/stitchwire/Output", "ensureRoom", "(I)V"⟩ : MethodName)) hown (mvT hZ (hw _ (List.mem_of_getElem? (i := 17) rfl))) (mvT hZ (hw _ (List.mem_of_getElem? (i := 18) rfl))) (own_selp (mvT hZ (hw _ (List.mem_of_getElem? (i := 2) rfl))) (Cond.privateMethod_at (mvP hZ (hw _ (List.mem_of_getElem? (i := 19) rfl)) (args := #[]))) (mvT hZ (hw _ (List.mem_of_getElem? (i := 18) rfl))) (by decide)) (Cond.privateMethod_at (mvP hZ (hw _ (List.mem_of_getElem? (i := 19) rfl)) (args := #[]))) (mvT hZ (hw _ (List.mem_of_getElem? (i := 20) rfl))) (by decide) (backOf (W := 0) (rmEn l Z a0 hw [] ao (8 : Int32) ab kb nN (1 : Int32) vs h0 n0 Z0 E0 Fb Fs V0 hn) hZ (hw _ (List.mem_of_getElem? (i := 20) rfl)) (hw _ (List.mem_of_getElem? (i := 3) rfl)) (by decide) (by decide)) (g := (mkF m 2 #[.val (.ref ao), .val (.long jv), .second, .val (.int (8 : Int32)), .unset] [(.int (8 : Int32)), (.ref ao)])) rfl (by rw [hml]; rfl) (Steps.refl _) (a := ao) (by rw [e0]; exact q97) q97' (argsL := [(.int (8 : Int32))]) (rest := []) (lenOf pd__I_V rfl) rfl (by show 2 * 0 + _ ≤ _; exact Nat.le_of_eq rfl) (hb hby d11_2) (fun _ _ => ⟨rfl, e0, (by decide : 0 + 0 ≤ _), (by decide : 0 + 0 ≤ _)⟩)
  dsimp only [Pt.U, Pt.locs, Pt.cells, Pt.slots] at X97 l97 y97 z97 st97 hQ97
  subst l97 y97 z97
  obtain ⟨h97, e97⟩ : ∃ h, T97.heap = h := ⟨_, rfl⟩
  rw [e97] at hQ97
  obtain ⟨rfl, Nq97, hs97⟩ := hQ97
  have N97 := Fr.app N0 Nq97
  rw [hs97] at e97
  refine Go.trans st97 ?_
  show Go _ _ _ _ _ _ _ T97 (mkF m 5 #[.val (.ref ao), .val (.long jv), .second, .val (.int (8 : Int32)), .unset] [])
  refine Go.step (fun _ k => XS.iconst X97.here hx rfl (hb hby d11_5) k) ?_
  show Go _ _ _ _ _ _ _ T97 (mkF m 6 #[.val (.ref ao), .val (.long jv), .second, .val (.int (8 : Int32)), .unset] [(.int (0 : Int32))])
  refine Go.step (fun _ k => XS.istore X97.here hx rfl (hb hby d11_6) rfl (l' := #[.val (.ref ao), .val (.long jv), .second, .val (.int (8 : Int32)), .val (.int (0 : Int32))]) rfl k) ?_
  show Go _ _ _ _ _ _ _ T97 (mkF m 8 #[.val (.ref ao), .val (.long jv), .second, .val (.int (8 : Int32)), .val (.int (0 : Int32))] [])
  refine Go.step (fun _ k => XS.iload X97.here hx rfl (hb hby d11_8) rfl k) ?_
  show Go _ _ _ _ _ _ _ T97 (mkF m 10 #[.val (.ref ao), .val (.long jv), .second, .val (.int (8 : Int32)), .val (.int (0 : Int32))] [(.int (0 : Int32))])
  refine Go.step (fun _ k => XS.iloadN X97.here hx rfl (hb hby d11_10) rfl k) ?_
  show Go _ _ _ _ _ _ _ T97 (mkF m 11 #[.val (.ref ao), .val (.long jv), .second, .val (.int (8 : Int32)), .val (.int (0 : Int32))] [(.int (8 : Int32)), (.int (0 : Int32))])
  have hc11_98 : (0 : Int32) < (8 : Int32) := (by decide)
  refine Go.step (fun _ k => XS.icmpNo X97.here hx rfl (hb hby d11_11) rfl (tlt hc11_98).2.1 k) ?_
  show Go _ _ _ _ _ _ _ T97 (mkF m 14 #[.val (.ref ao), .val (.long jv), .second, .val (.int (8 : Int32)), .val (.int (0 : Int32))] [])
  refine Go.step (fun _ k => XS.aloadN X97.here hx rfl (hb hby d11_14) rfl rfl k) ?_
  show Go _ _ _ _ _ _ _ T97 (mkF m 15 #[.val (.ref ao), .val (.long jv), .second, .val (.int (8 : Int32)), .val (.int (0 : Int32))] [(.ref ao)])
  obtain ⟨T99, X99, e99, st99⟩ := getF X97 hx hZ hown (host := "") (Or.inl (hw _ (List.mem_of_getElem? (i := 10) rfl))) Via.refl e97 Fb (g := (mkF m 15 #[.val (.ref ao), .val (.long jv), .second, .val (.int (8 : Int32)), .val (.int (0 : Int32))] [(.ref ao)])) rfl rfl (hb hby d11_15)
  refine Go.step st99 ?_
  show Go _ _ _ _ _ _ _ T99 (mkF m 18 #[.val (.ref ao), .val (.long jv), .second, .val (.int (8 : Int32)), .val (.int (0 : Int32))] [(.ref ab)])
  refine Go.step (fun _ k => XS.aloadN X99.here hx rfl (hb hby d11_18) rfl rfl k) ?_
  show Go _ _ _ _ _ _ _ T99 (mkF m 19 #[.val (.ref ao), .val (.long jv), .second, .val (.int (8 : Int32)), .val (.int (0 : Int32))] [(.ref ao), (.ref ab)])
  refine Go.step (fun _ k => XS.dup X99.here hx rfl (hb hby d11_19) rfl rfl k) ?_
  show Go _ _ _ _ _ _ _ T99 (mkF m 20 #[.val (.ref ao), .val (.long jv), .second, .val (.int (8 : Int32)), .val (.int (0 : Int32))] [(.ref ao), (.ref ao), (.ref ab)])
  obtain ⟨T100, X100, e100, st100⟩ := getF X99 hx hZ hown (host := "") (Or.inl (hw _ (List.mem_of_getElem? (i := 21) rfl))) Via.refl e99 Fs (g := (mkF m 20 #[.val (.ref ao), .val (.long jv), .second, .val (.int (8 : Int32)), .val (.int (0 : Int32))] [(.ref ao), (.ref ao), (.ref ab)])) rfl rfl (hb hby d11_20)
  refine Go.step st100 ?_
  show Go _ _ _ _ _ _ _ T100 (mkF m 23 #[.val (.ref ao), .val (.long jv), .second, .val (.int (8 : Int32)), .val (.int (0 : Int32))] [(.int (1 : Int32)), (.ref ao), (.ref ab)])
  refine Go.step (fun _ k => XS.dupX1 X100.here hx rfl (hb hby d11_23) rfl rfl rfl k) ?_
  show Go _ _ _ _ _ _ _ T100 (mkF m 24 #[.val (.ref ao), .val (.long jv), .second, .val (.int (8 : Int32)), .val (.int (0 : Int32))] [(.int (1 : Int32)), (.ref ao), (.int (1 : Int32)), (.ref ab)])
  refine Go.step (fun _ k => XS.iconst X100.here hx rfl (hb hby d11_24) k) ?_
  show Go _ _ _ _ _ _ _ T100 (mkF m 25 #[.val (.ref ao), .val (.long jv), .second, .val (.int (8 : Int32)), .val (.int (0 : Int32))] [(.int (1 : Int32)), (.int (1 : Int32)), (.ref ao), (.int (1 : Int32)), (.ref ab)])
  refine Go.step (fun _ k => XS.iadd X100.here hx rfl (hb hby d11_25) rfl k) ?_
  show Go _ _ _ _ _ _ _ T100 (mkF m 26 #[.val (.ref ao), .val (.long jv), .second, .val (.int (8 : Int32)), .val (.int (0 : Int32))] [(.int (2 : Int32)), (.ref ao), (.int (1 : Int32)), (.ref ab)])
  obtain ⟨T101, h101, X101, e101, W101, st101⟩ := putF X100 hx hZ hown (host := "") (Or.inl (hw _ (List.mem_of_getElem? (i := 21) rfl))) Via.refl e100 Fs E0 (Or.inl (hw _ (List.mem_of_getElem? (i := 22) rfl))) (hw _ (List.mem_of_getElem? (i := 2) rfl)) (ty := .int) (by decide) rfl rfl (g := (mkF m 26 #[.val (.ref ao), .val (.long jv), .second, .val (.int (8 : Int32)), .val (.int (0 : Int32))] [(.int (2 : Int32)), (.ref ao), (.int (1 : Int32)), (.ref ab)])) rfl rfl (hb hby d11_26)
  refine Go.step st101 ?_
  have Fw101 := Fs.same W101
  have N101 := Fr.snoc X101 N97 g0
  have Z101 : n0 ≤ h101.size := Nat.le_trans Z0 (Keep.of_wr W101).1
  have KK101 : Keep h0 h101 [ao, ab] := (Keep.refl h0 [ao, ab]).wr W101 (Or.inl (List.mem_of_getElem? (i := 0) rfl))
  show Go _ _ _ _ _ _ _ T101 (mkF m 29 #[.val (.ref ao), .val (.long jv), .second, .val (.int (8 : Int32)), .val (.int (0 : Int32))] [(.int (1 : Int32)), (.ref ab)])
  refine Go.step (fun _ k => XS.lloadN X101.here hx rfl (hb hby d11_29) rfl k) ?_
  show Go _ _ _ _ _ _ _ T101 (mkF m 30 #[.val (.ref ao), .val (.long jv), .second, .val (.int (8 : Int32)), .val (.int (0 : Int32))] [(.long jv), (.int (1 : Int32)), (.ref ab)])
  refine Go.step (fun _ k => XS.bipush X101.here hx rfl (hb hby d11_30) k) ?_
  show Go _ _ _ _ _ _ _ T101 (mkF m 32 #[.val (.ref ao), .val (.long jv), .second, .val (.int (8 : Int32)), .val (.int (0 : Int32))] [(.int (8 : Int32)), (.long jv), (.int (1 : Int32)), (.ref ab)])
  refine Go.step (fun _ k => XS.iload X101.here hx rfl (hb hby d11_32) rfl k) ?_
  show Go _ _ _ _ _ _ _ T101 (mkF m 34 #[.val (.ref ao), .val (.long jv), .second, .val (.int (8 : Int32)), .val (.int (0 : Int32))] [(.int (0 : Int32)), (.int (8 : Int32)), (.long jv), (.int (1 : Int32)), (.ref ab)])
  refine Go.step (fun _ k => XS.imul X101.here hx rfl (hb hby d11_34) rfl k) ?_
  show Go _ _ _ _ _ _ _ T101 (mkF m 35 #[.val (.ref ao), .val (.long jv), .second, .val (.int (8 : Int32)), .val (.int (0 : Int32))] [(.int (0 : Int32)), (.long jv), (.int (1 : Int32)), (.ref ab)])
  refine Go.step (fun _ k => XS.lushr X101.here hx rfl (hb hby d11_35) rfl k) ?_
  show Go _ _ _ _ _ _ _ T101 (mkF m 36 #[.val (.ref ao), .val (.long jv), .second, .val (.int (8 : Int32)), .val (.int (0 : Int32))] [(.long ((jv.toUInt64 >>> ((0 : Int32) &&& 0x3f).toInt64.toUInt64).toInt64)), (.int (1 : Int32)), (.ref ab)])
  refine Go.step (fun _ k => XS.l2i X101.here hx rfl (hb hby d11_36) rfl k) ?_
  show Go _ _ _ _ _ _ _ T101 (mkF m 37 #[.val (.ref ao), .val (.long jv), .second, .val (.int (8 : Int32)), .val (.int (0 : Int32))] [(.int (((jv.toUInt64 >>> ((0 : Int32) &&& 0x3f).toInt64.toUInt64).toInt64).toInt32)), (.int (1 : Int32)), (.ref ab)])
  refine Go.step (fun _ k => XS.i2b X101.here hx rfl (hb hby d11_37) rfl k) ?_
  show Go _ _ _ _ _ _ _ T101 (mkF m 38 #[.val (.ref ao), .val (.long jv), .second, .val (.int (8 : Int32)), .val (.int (0 : Int32))] [(.int ((((jv.toUInt64 >>> ((0 : Int32) &&& 0x3f).toInt64.toUInt64).toInt64).toInt32).toInt8.toInt32)), (.int (1 : Int32)), (.ref ab)])
  have f102 : Arv Z h101 ab kb .byte nN vs (.int (0 : Int32)) := (V0.other W101 (Ne.symm ne0))
  obtain ⟨cl103, Ar103, q103, S103, M103, H103, G103⟩ := id (f102)
  have hin103 : ¬ ((1 : Int32) < 0 ∨ cl103.slots.size ≤ ((1 : Int32)).toNatClampNeg) := inb_of S103 ⟨by decide, (by have : (1 : Int32).toInt = 1 := rfl; have : (64 : Int32).toInt = 64 := rfl; simp only [Int32.lt_iff_toInt_lt, Int32.le_iff_toInt_le, ← Int32.toInt_inj, Int64.lt_iff_toInt_lt, Int64.le_iff_toInt_le, ← Int64.toInt_inj] at h64 ⊢; omega)⟩
  obtain ⟨T103, h103, X103, e103, W103, st103⟩ := stB X101 hx hZ e101 Ar103 (j := (1 : Int32)) hin103 (g := (mkF m 38 #[.val (.ref ao), .val (.long jv), .second, .val (.int (8 : Int32)), .val (.int (0 : Int32))] [(.int ((((jv.toUInt64 >>> ((0 : Int32) &&& 0x3f).toInt64.toUInt64).toInt64).toInt32).toInt8.toInt32)), (.int (1 : Int32)), (.ref ab)])) rfl rfl (hb hby d11_38)
  refine Go.step st103 ?_
  have V103 : Arv Z h103 ab kb .byte nN (vs.set 1 (.int (nar .byte ((((jv.toUInt64 >>> ((0 : Int32) &&& 0x3f).toInt64.toUInt64).toInt64).toInt32).toInt8.toInt32)))) (.int (0 : Int32)) := Arv.set Ar103 q103 S103 M103 H103 G103 (fits_nar_byte _) W103 1 rfl (by (try simp only [List.length_set]); exact Nat.lt_of_lt_of_le (by decide) (own_64 h64 hlen))
  have N103 := Fr.snoc X103 N101 g1
  have Z103 : n0 ≤ h103.size := Nat.le_trans Z101 (Keep.of_wr W103).1
  have KK103 : Keep h0 h103 [ao, ab] := KK101.wr W103 (Or.inl (List.mem_of_getElem? (i := 1) rfl))
  show Go _ _ _ _ _ _ _ T103 (mkF m 39 #[.val (.ref ao), .val (.long jv), .second, .val (.int (8 : Int32)), .val (.int (0 : Int32))] [])
  refine Go.step (fun _ k => XS.iinc X103.here hx rfl (hb hby d11_39) rfl (l' := #[.val (.ref ao), .val (.long jv), .second, .val (.int (8 : Int32)), .val (.int (1 : Int32))]) rfl k) ?_
  show Go _ _ _ _ _ _ _ T103 (mkF m 42 #[.val (.ref ao), .val (.long jv), .second, .val (.int (8 : Int32)), .val (.int (1 : Int32))] [])
  refine Go.step (fun _ k => XS.goto X103.here hx rfl (pc0 := 42) (pc' := 8) rfl (hb hby d11_42) (by decide) (by decide) k) ?_
  show Go _ _ _ _ _ _ _ T103 (mkF m 8 #[.val (.ref ao), .val (.long jv), .second, .val (.int (8 : Int32)), .val (.int (1 : Int32))] [])
  refine Go.step (fun _ k => XS.iload X103.here hx rfl (hb hby d11_8) rfl k) ?_
  show Go _ _ _ _ _ _ _ T103 (mkF m 10 #[.val (.ref ao), .val (.long jv), .second, .val (.int (8 : Int32)), .val (.int (1 : Int32))] [(.int (1 : Int32))])
  refine Go.step (fun _ k => XS.iloadN X103.here hx rfl (hb hby d11_10) rfl k) ?_
  show Go _ _ _ _ _ _ _ T103 (mkF m 11 #[.val (.ref ao), .val (.long jv), .second, .val (.int (8 : Int32)), .val (.int (1 : Int32))] [(.int (8 : Int32)), (.int (1 : Int32))])
  have hc11_104 : (1 : Int32) < (8 : Int32) := (by decide)
  refine Go.step (fun _ k => XS.icmpNo X103.here hx rfl (hb hby d11_11) rfl (tlt hc11_104).2.1 k) ?_
  show Go _ _ _ _ _ _ _ T103 (mkF m 14 #[.val (.ref ao), .val (.long jv), .second, .val (.int (8 : Int32)), .val (.int (1 : Int32))] [])
  refine Go.step (fun _ k => XS.aloadN X103.here hx rfl (hb hby d11_14) rfl rfl k) ?_
  show Go _ _ _ _ _ _ _ T103 (mkF m 15 #[.val (.ref ao), .val (.long jv), .second, .val (.int (8 : Int32)), .val (.int (1 : Int32))] [(.ref ao)])
  have f105 : Fld Z h103 ao "com/example/stitchwire/stitchwire/Output" "buffer" "[B" (.ref ab) := ((Fb.other W101 (Or.inr (slot_ne (a0 := a0) (C := "com/example/stitchwire/stitchwire/Output") (Or.inl (hw _ (List.mem_of_getElem? (i := 11) rfl))) (Or.inl (hw _ (List.mem_of_getElem? (i := 22) rfl))) (by decide) (t := (.array .byte)) (t' := .int) (by decide) (by decide)))).other W103 (Or.inl ne0))
  obtain ⟨T106, X106, e106, st106⟩ := getF X103 hx hZ hown (host := "") (Or.inl (hw _ (List.mem_of_getElem? (i := 10) rfl))) Via.refl e103 f105 (g := (mkF m 15 #[.val (.ref ao), .val (.long jv), .second, .val (.int (8 : Int32)), .val (.int (1 : Int32))] [(.ref ao)])) rfl rfl (hb hby d11_15)
  refine Go.step st106 ?_
  show Go _ _ _ _ _ _ _ T106 (mkF m 18 #[.val (.ref ao), .val (.long jv), .second, .val (.int (8 : Int32)), .val (.int (1 : Int32))] [(.ref ab)])
  refine Go.step (fun _ k => XS.aloadN X106.here hx rfl (hb hby d11_18) rfl rfl k) ?_
  show Go _ _ _ _ _ _ _ T106 (mkF m 19 #[.val (.ref ao), .val (.long jv), .second, .val (.int (8 : Int32)), .val (.int (1 : Int32))] [(.ref ao), (.ref ab)])
  refine Go.step (fun _ k => XS.dup X106.here hx rfl (hb hby d11_19) rfl rfl k) ?_
  show Go _ _ _ _ _ _ _ T106 (mkF m 20 #[.val (.ref ao), .val (.long jv), .second, .val (.int (8 : Int32)), .val (.int (1 : Int32))] [(.ref ao), (.ref ao), (.ref ab)])
  have f107 : Fld Z h103 ao "com/example/stitchwire/stitchwire/Output" "size" "I" (.int (2 : Int32)) := (Fw101.other W103 (Or.inl ne0))
  obtain ⟨T108, X108, e108, st108⟩ := getF X106 hx hZ hown (host := "") (Or.inl (hw _ (List.mem_of_getElem? (i := 21) rfl))) Via.refl e106 f107 (g := (mkF m 20 #[.val (.ref ao), .val (.long jv), .second, .val (.int (8 : Int32)), .val (.int (1 : Int32))] [(.ref ao), (.ref ao), (.ref ab)])) rfl rfl (hb hby d11_20)
  refine Go.step st108 ?_
  show Go _ _ _ _ _ _ _ T108 (mkF m 23 #[.val (.ref ao), .val (.long jv), .second, .val (.int (8 : Int32)), .val (.int (1 : Int32))] [(.int (2 : Int32)), (.ref ao), (.ref ab)])
  refine Go.step (fun _ k => XS.dupX1 X108.here hx rfl (hb hby d11_23) rfl rfl rfl k) ?_
  show Go _ _ _ _ _ _ _ T108 (mkF m 24 #[.val (.ref ao), .val (.long jv), .second, .val (.int (8 : Int32)), .val (.int (1 : Int32))] [(.int (2 : Int32)), (.ref ao), (.int (2 : Int32)), (.ref ab)])
  refine Go.step (fun _ k => XS.iconst X108.here hx rfl (hb hby d11_24) k) ?_
  show Go _ _ _ _ _ _ _ T108 (mkF m 25 #[.val (.ref ao), .val (.long jv), .second, .val (.int (8 : Int32)), .val (.int (1 : Int32))] [(.int (1 : Int32)), (.int (2 : Int32)), (.ref ao), (.int (2 : Int32)), (.ref ab)])
  refine Go.step (fun _ k => XS.iadd X108.here hx rfl (hb hby d11_25) rfl k) ?_
  show Go _ _ _ _ _ _ _ T108 (mkF m 26 #[.val (.ref ao), .val (.long jv), .second, .val (.int (8 : Int32)), .val (.int (1 : Int32))] [(.int (3 : Int32)), (.ref ao), (.int (2 : Int32)), (.ref ab)])
  have f109 : Exa Z h103 ao "com/example/stitchwire/stitchwire/Output" := ((E0.wr W101).wr W103)
  obtain ⟨T110, h110, X110, e110, W110, st110⟩ := putF X108 hx hZ hown (host := "") (Or.inl (hw _ (List.mem_of_getElem? (i := 21) rfl))) Via.refl e108 f107 f109 (Or.inl (hw _ (List.mem_of_getElem? (i := 22) rfl))) (hw _ (List.mem_of_getElem? (i := 2) rfl)) (ty := .int) (by decide) rfl rfl (g := (mkF m 26 #[.val (.ref ao), .val (.long jv), .second, .val (.int (8 : Int32)), .val (.int (1 : Int32))] [(.int (3 : Int32)), (.ref ao), (.int (2 : Int32)), (.ref ab)])) rfl rfl (hb hby d11_26)
  refine Go.step st110 ?_
  have Fw110 := f107.same W110
  have N110 := Fr.snoc X110 N103 g0
  have Z110 : n0 ≤ h110.size := Nat.le_trans Z103 (Keep.of_wr W110).1
  have KK110 : Keep h0 h110 [ao, ab] := KK103.wr W110 (Or.inl (List.mem_of_getElem? (i := 0) rfl))
  show Go _ _ _ _ _ _ _ T110 (mkF m 29 #[.val (.ref ao), .val (.long jv), .second, .val (.int (8 : Int32)), .val (.int (1 : Int32))] [(.int (2 : Int32)), (.ref ab)])
  refine Go.step (fun _ k => XS.lloadN X110.here hx rfl (hb hby d11_29) rfl k) ?_
  show Go _ _ _ _ _ _ _ T110 (mkF m 30 #[.val (.ref ao), .val (.long jv), .second, .val (.int (8 : Int32)), .val (.int (1 : Int32))] [(.long jv), (.int (2 : Int32)), (.ref ab)])
  refine Go.step (fun _ k => XS.bipush X110.here hx rfl (hb hby d11_30) k) ?_
  show Go _ _ _ _ _ _ _ T110 (mkF m 32 #[.val (.ref ao), .val (.long jv), .second, .val (.int (8 : Int32)), .val (.int (1 : Int32))] [(.int (8 : Int32)), (.long jv), (.int (2 : Int32)), (.ref ab)])
  refine Go.step (fun _ k => XS.iload X110.here hx rfl (hb hby d11_32) rfl k) ?_
  show Go _ _ _ _ _ _ _ T110 (mkF m 34 #[.val (.ref ao), .val (.long jv), .second, .val (.int (8 : Int32)), .val (.int (1 : Int32))] [(.int (1 : Int32)), (.int (8 : Int32)), (.long jv), (.int (2 : Int32)), (.ref ab)])
  refine Go.step (fun _ k => XS.imul X110.here hx rfl (hb hby d11_34) rfl k) ?_
  show Go _ _ _ _ _ _ _ T110 (mkF m 35 #[.val (.ref ao), .val (.long jv), .second, .val (.int (8 : Int32)), .val (.int (1 : Int32))] [(.int (8 : Int32)), (.long jv), (.int (2 : Int32)), (.ref ab)])
  refine Go.step (fun _ k => XS.lushr X110.here hx rfl (hb hby d11_35) rfl k) ?_
  show Go _ _ _ _ _ _ _ T110 (mkF m 36 #[.val (.ref ao), .val (.long jv), .second, .val (.int (8 : Int32)), .val (.int (1 : Int32))] [(.long ((jv.toUInt64 >>> ((8 : Int32) &&& 0x3f).toInt64.toUInt64).toInt64)), (.int (2 : Int32)), (.ref ab)])
  refine Go.step (fun _ k => XS.l2i X110.here hx rfl (hb hby d11_36) rfl k) ?_
  show Go _ _ _ _ _ _ _ T110 (mkF m 37 #[.val (.ref ao), .val (.long jv), .second, .val (.int (8 : Int32)), .val (.int (1 : Int32))] [(.int (((jv.toUInt64 >>> ((8 : Int32) &&& 0x3f).toInt64.toUInt64).toInt64).toInt32)), (.int (2 : Int32)), (.ref ab)])
  refine Go.step (fun _ k => XS.i2b X110.here hx rfl (hb hby d11_37) rfl k) ?_
  show Go _ _ _ _ _ _ _ T110 (mkF m 38 #[.val (.ref ao), .val (.long jv), .second, .val (.int (8 : Int32)), .val (.int (1 : Int32))] [(.int ((((jv.toUInt64 >>> ((8 : Int32) &&& 0x3f).toInt64.toUInt64).toInt64).toInt32).toInt8.toInt32)), (.int (2 : Int32)), (.ref ab)])
  have f111 : Arv Z h110 ab kb .byte nN (vs.set 1 (.int (nar .byte ((((jv.toUInt64 >>> ((0 : Int32) &&& 0x3f).toInt64.toUInt64).toInt64).toInt32).toInt8.toInt32)))) (.int (0 : Int32)) := (V103.other W110 (Ne.symm ne0))
  obtain ⟨cl112, Ar112, q112, S112, M112, H112, G112⟩ := id (f111)
  have hin112 : ¬ ((2 : Int32) < 0 ∨ cl112.slots.size ≤ ((2 : Int32)).toNatClampNeg) := inb_of S112 ⟨by decide, (by have : (2 : Int32).toInt = 2 := rfl; have : (64 : Int32).toInt = 64 := rfl; simp only [Int32.lt_iff_toInt_lt, Int32.le_iff_toInt_le, ← Int32.toInt_inj, Int64.lt_iff_toInt_lt, Int64.le_iff_toInt_le, ← Int64.toInt_inj] at h64 ⊢; omega)⟩
  obtain ⟨T112, h112, X112, e112, W112, st112⟩ := stB X110 hx hZ e110 Ar112 (j := (2 : Int32)) hin112 (g := (mkF m 38 #[.val (.ref ao), .val (.long jv), .second, .val (.int (8 : Int32)), .val (.int (1 : Int32))] [(.int ((((jv.toUInt64 >>> ((8 : Int32) &&& 0x3f).toInt64.toUInt64).toInt64).toInt32).toInt8.toInt32)), (.int (2 : Int32)), (.ref ab)])) rfl rfl (hb hby d11_38)
  refine Go.step st112 ?_
  have V112 : Arv Z h112 ab kb .byte nN ((vs.set 1 (.int (nar .byte ((((jv.toUInt64 >>> ((0 : Int32) &&& 0x3f).toInt64.toUInt64).toInt64).toInt32).toInt8.toInt32)))).set 2 (.int (nar .byte ((((jv.toUInt64 >>> ((8 : Int32) &&& 0x3f).toInt64.toUInt64).toInt64).toInt32).toInt8.toInt32)))) (.int (0 : Int32)) := Arv.set Ar112 q112 S112 M112 H112 G112 (fits_nar_byte _) W112 2 rfl (by (try simp only [List.length_set]); exact Nat.lt_of_lt_of_le (by decide) (own_64 h64 hlen))
  have N112 := Fr.snoc X112 N110 g1
  have Z112 : n0 ≤ h112.size := Nat.le_trans Z110 (Keep.of_wr W112).1
  have KK112 : Keep h0 h112 [ao, ab] := KK110.wr W112 (Or.inl (List.mem_of_getElem? (i := 1) rfl))
  show Go _ _ _ _ _ _ _ T112 (mkF m 39 #[.val (.ref ao), .val (.long jv), .second, .val (.int (8 : Int32)), .val (.int (1 : Int32))] [])
  refine Go.step (fun _ k => XS.iinc X112.here hx rfl (hb hby d11_39) rfl (l' := #[.val (.ref ao), .val (.long jv), .second, .val (.int (8 : Int32)), .val (.int (2 : Int32))]) rfl k) ?_
  show Go _ _ _ _ _ _ _ T112 (mkF m 42 #[.val (.ref ao), .val (.long jv), .second, .val (.int (8 : Int32)), .val (.int (2 : Int32))] [])
  refine Go.step (fun _ k => XS.goto X112.here hx rfl (pc0 := 42) (pc' := 8) rfl (hb hby d11_42) (by decide) (by decide) k) ?_
  show Go _ _ _ _ _ _ _ T112 (mkF m 8 #[.val (.ref ao), .val (.long jv), .second, .val (.int (8 : Int32)), .val (.int (2 : Int32))] [])
  refine Go.step (fun _ k => XS.iload X112.here hx rfl (hb hby d11_8) rfl k) ?_
  show Go _ _ _ _ _ _ _ T112 (mkF m 10 #[.val (.ref ao), .val (.long jv), .second, .val (.int (8 : Int32)), .val (.int (2 : Int32))] [(.int (2 : Int32))])
  refine Go.step (fun _ k => XS.iloadN X112.here hx rfl (hb hby d11_10) rfl k) ?_
  show Go _ _ _ _ _ _ _ T112 (mkF m 11 #[.val (.ref ao), .val (.long jv), .second, .val (.int (8 : Int32)), .val (.int (2 : Int32))] [(.int (8 : Int32)), (.int (2 : Int32))])
  have hc11_113 : (2 : Int32) < (8 : Int32) := (by decide)
  refine Go.step (fun _ k => XS.icmpNo X112.here hx rfl (hb hby d11_11) rfl (tlt hc11_113).2.1 k) ?_
  show Go _ _ _ _ _ _ _ T112 (mkF m 14 #[.val (.ref ao), .val (.long jv), .second, .val (.int (8 : Int32)), .val (.int (2 : Int32))] [])
  refine Go.step (fun _ k => XS.aloadN X112.here hx rfl (hb hby d11_14) rfl rfl k) ?_
  show Go _ _ _ _ _ _ _ T112 (mkF m 15 #[.val (.ref ao), .val (.long jv), .second, .val (.int (8 : Int32)), .val (.int (2 : Int32))] [(.ref ao)])
  have f114 : Fld Z h112 ao "com/example/stitchwire/stitchwire/Output" "buffer" "[B" (.ref ab) := ((f105.other W110 (Or.inr (slot_ne (a0 := a0) (C := "com/example/stitchwire/stitchwire/Output") (Or.inl (hw _ (List.mem_of_getElem? (i := 11) rfl))) (Or.inl (hw _ (List.mem_of_getElem? (i := 22) rfl))) (by decide) (t := (.array .byte)) (t' := .int) (by decide) (by decide)))).other W112 (Or.inl ne0))
  obtain ⟨T115, X115, e115, st115⟩ := getF X112 hx hZ hown (host := "") (Or.inl (hw _ (List.mem_of_getElem? (i := 10) rfl))) Via.refl e112 f114 (g := (mkF m 15 #[.val (.ref ao), .val (.long jv), .second, .val (.int (8 : Int32)), .val (.int (2 : Int32))] [(.ref ao)])) rfl rfl (hb hby d11_15)
  refine Go.step st115 ?_
  show Go _ _ _ _ _ _ _ T115 (mkF m 18 #[.val (.ref ao), .val (.long jv), .second, .val (.int (8 : Int32)), .val (.int (2 : Int32))] [(.ref ab)])
  refine Go.step (fun _ k => XS.aloadN X115.here hx rfl (hb hby d11_18) rfl rfl k) ?_
  show Go _ _ _ _ _ _ _ T115 (mkF m 19 #[.val (.ref ao), .val (.long jv), .second, .val (.int (8 : Int32)), .val (.int (2 : Int32))] [(.ref ao), (.ref ab)])
  refine Go.step (fun _ k => XS.dup X115.here hx rfl (hb hby d11_19) rfl rfl k) ?_
  show Go _ _ _ _ _ _ _ T115 (mkF m 20 #[.val (.ref ao), .val (.long jv), .second, .val (.int (8 : Int32)), .val (.int (2 : Int32))] [(.ref ao), (.ref ao), (.ref ab)])
  have f116 : Fld Z h112 ao "com/example/stitchwire/stitchwire/Output" "size" "I" (.int (3 : Int32)) := (Fw110.other W112 (Or.inl ne0))
  obtain ⟨T117, X117, e117, st117⟩ := getF X115 hx hZ hown (host := "") (Or.inl (hw _ (List.mem_of_getElem? (i := 21) rfl))) Via.refl e115 f116 (g := (mkF m 20 #[.val (.ref ao), .val (.long jv), .second, .val (.int (8 : Int32)), .val (.int (2 : Int32))] [(.ref ao), (.ref ao), (.ref ab)])) rfl rfl (hb hby d11_20)
  refine Go.step st117 ?_
  show Go _ _ _ _ _ _ _ T117 (mkF m 23 #[.val (.ref ao), .val (.long jv), .second, .val (.int (8 : Int32)), .val (.int (2 : Int32))] [(.int (3 : Int32)), (.ref ao), (.ref ab)])
  refine Go.step (fun _ k => XS.dupX1 X117.here hx rfl (hb hby d11_23) rfl rfl rfl k) ?_
  show Go _ _ _ _ _ _ _ T117 (mkF m 24 #[.val (.ref ao), .val (.long jv), .second, .val (.int (8 : Int32)), .val (.int (2 : Int32))] [(.int (3 : Int32)), (.ref ao), (.int (3 : Int32)), (.ref ab)])
  refine Go.step (fun _ k => XS.iconst X117.here hx rfl (hb hby d11_24) k) ?_
  show Go _ _ _ _ _ _ _ T117 (mkF m 25 #[.val (.ref ao), .val (.long jv), .second, .val (.int (8 : Int32)), .val (.int (2 : Int32))] [(.int (1 : Int32)), (.int (3 : Int32)), (.ref ao), (.int (3 : Int32)), (.ref ab)])
  refine Go.step (fun _ k => XS.iadd X117.here hx rfl (hb hby d11_25) rfl k) ?_
  show Go _ _ _ _ _ _ _ T117 (mkF m 26 #[.val (.ref ao), .val (.long jv), .second, .val (.int (8 : Int32)), .val (.int (2 : Int32))] [(.int (4 : Int32)), (.ref ao), (.int (3 : Int32)), (.ref ab)])
  have f118 : Exa Z h112 ao "com/example/stitchwire/stitchwire/Output" := ((f109.wr W110).wr W112)
  obtain ⟨T119, h119, X119, e119, W119, st119⟩ := putF X117 hx hZ hown (host := "") (Or.inl (hw _ (List.mem_of_getElem? (i := 21) rfl))) Via.refl e117 f116 f118 (Or.inl (hw _ (List.mem_of_getElem? (i := 22) rfl))) (hw _ (List.mem_of_getElem? (i := 2) rfl)) (ty := .int) (by decide) rfl rfl (g := (mkF m 26 #[.val (.ref ao), .val (.long jv), .second, .val (.int (8 : Int32)), .val (.int (2 : Int32))] [(.int (4 : Int32)), (.ref ao), (.int (3 : Int32)), (.ref ab)])) rfl rfl (hb hby d11_26)
  refine Go.step st119 ?_
  have Fw119 := f116.same W119
  have N119 := Fr.snoc X119 N112 g0
  have Z119 : n0 ≤ h119.size := Nat.le_trans Z112 (Keep.of_wr W119).1
  have KK119 : Keep h0 h119 [ao, ab] := KK112.wr W119 (Or.inl (List.mem_of_getElem? (i := 0) rfl))
  show Go _ _ _ _ _ _ _ T119 (mkF m 29 #[.val (.ref ao), .val (.long jv), .second, .val (.int (8 : Int32)), .val (.int (2 : Int32))] [(.int (3 : Int32)), (.ref ab)])
  refine Go.step (fun _ k => XS.lloadN X119.here hx rfl (hb hby d11_29) rfl k) ?_
  show Go _ _ _ _ _ _ _ T119 (mkF m 30 #[.val (.ref ao), .val (.long jv), .second, .val (.int (8 : Int32)), .val (.int (2 : Int32))] [(.long jv), (.int (3 : Int32)), (.ref ab)])
  refine Go.step (fun _ k => XS.bipush X119.here hx rfl (hb hby d11_30) k) ?_
  show Go _ _ _ _ _ _ _ T119 (mkF m 32 #[.val (.ref ao), .val (.long jv), .second, .val (.int (8 : Int32)), .val (.int (2 : Int32))] [(.int (8 : Int32)), (.long jv), (.int (3 : Int32)), (.ref ab)])
  refine Go.step (fun _ k => XS.iload X119.here hx rfl (hb hby d11_32) rfl k) ?_
  show Go _ _ _ _ _ _ _ T119 (mkF m 34 #[.val (.ref ao), .val (.long jv), .second, .val (.int (8 : Int32)), .val (.int (2 : Int32))] [(.int (2 : Int32)), (.int (8 : Int32)), (.long jv), (.int (3 : Int32)), (.ref ab)])
  refine Go.step (fun _ k => XS.imul X119.here hx rfl (hb hby d11_34) rfl k) ?_
  show Go _ _ _ _ _ _ _ T119 (mkF m 35 #[.val (.ref ao), .val (.long jv), .second, .val (.int (8 : Int32)), .val (.int (2 : Int32))] [(.int (16 : Int32)), (.long jv), (.int (3 : Int32)), (.ref ab)])
  refine Go.step (fun _ k => XS.lushr X119.here hx rfl (hb hby d11_35) rfl k) ?_
  show Go _ _ _ _ _ _ _ T119 (mkF m 36 #[.val (.ref ao), .val (.long jv), .second, .val (.int (8 : Int32)), .val (.int (2 : Int32))] [(.long ((jv.toUInt64 >>> ((16 : Int32) &&& 0x3f).toInt64.toUInt64).toInt64)), (.int (3 : Int32)), (.ref ab)])
  refine Go.step (fun _ k => XS.l2i X119.here hx rfl (hb hby d11_36) rfl k) ?_
  show Go _ _ _ _ _ _ _ T119 (mkF m 37 #[.val (.ref ao), .val (.long jv), .second, .val (.int (8 : Int32)), .val (.int (2 : Int32))] [(.int (((jv.toUInt64 >>> ((16 : Int32) &&& 0x3f).toInt64.toUInt64).toInt64).toInt32)), (.int (3 : Int32)), (.ref ab)])
  refine Go.step (fun _ k => XS.i2b X119.here hx rfl (hb hby d11_37) rfl k) ?_
  show Go _ _ _ _ _ _ _ T119 (mkF m 38 #[.val (.ref ao), .val (.long jv), .second, .val (.int (8 : Int32)), .val (.int (2 : Int32))] [(.int ((((jv.toUInt64 >>> ((16 : Int32) &&& 0x3f).toInt64.toUInt64).toInt64).toInt32).toInt8.toInt32)), (.int (3 : Int32)), (.ref ab)])
  have f120 : Arv Z h119 ab kb .byte nN ((vs.set 1 (.int (nar .byte ((((jv.toUInt64 >>> ((0 : Int32) &&& 0x3f).toInt64.toUInt64).toInt64).toInt32).toInt8.toInt32)))).set 2 (.int (nar .byte ((((jv.toUInt64 >>> ((8 : Int32) &&& 0x3f).toInt64.toUInt64).toInt64).toInt32).toInt8.toInt32)))) (.int (0 : Int32)) := (V112.other W119 (Ne.symm ne0))
  obtain ⟨cl121, Ar121, q121, S121, M121, H121, G121⟩ := id (f120)
  have hin121 : ¬ ((3 : Int32) < 0 ∨ cl121.slots.size ≤ ((3 : Int32)).toNatClampNeg) := inb_of S121 ⟨by decide, (by have : (3 : Int32).toInt = 3 := rfl; have : (64 : Int32).toInt = 64 := rfl; simp only [Int32.lt_iff_toInt_lt, Int32.le_iff_toInt_le, ← Int32.toInt_inj, Int64.lt_iff_toInt_lt, Int64.le_iff_toInt_le, ← Int64.toInt_inj] at h64 ⊢; omega)⟩
  obtain ⟨T121, h121, X121, e121, W121, st121⟩ := stB X119 hx hZ e119 Ar121 (j := (3 : Int32)) hin121 (g := (mkF m 38 #[.val (.ref ao), .val (.long jv), .second, .val (.int (8 : Int32)), .val (.int (2 : Int32))] [(.int ((((jv.toUInt64 >>> ((16 : Int32) &&& 0x3f).toInt64.toUInt64).toInt64).toInt32).toInt8.toInt32)), (.int (3 : Int32)), (.ref ab)])) rfl rfl (hb hby d11_38)
  refine Go.step st121 ?_
  have V121 : Arv Z h121 ab kb .byte nN (((vs.set 1 (.int (nar .byte ((((jv.toUInt64 >>> ((0 : Int32) &&& 0x3f).toInt64.toUInt64).toInt64).toInt32).toInt8.toInt32)))).set 2 (.int (nar .byte ((((jv.toUInt64 >>> ((8 : Int32) &&& 0x3f).toInt64.toUInt64).toInt64).toInt32).toInt8.toInt32)))).set 3 (.int (nar .byte ((((jv.toUInt64 >>> ((16 : Int32) &&& 0x3f).toInt64.toUInt64).toInt64).toInt32).toInt8.toInt32)))) (.int (0 : Int32)) := Arv.set Ar121 q121 S121 M121 H121 G121 (fits_nar_byte _) W121 3 rfl (by (try simp only [List.length_set]); exact Nat.lt_of_lt_of_le (by decide) (own_64 h64 hlen))
  have N121 := Fr.snoc X121 N119 g1
  have Z121 : n0 ≤ h121.size := Nat.le_trans Z119 (Keep.of_wr W121).1
  have KK121 : Keep h0 h121 [ao, ab] := KK119.wr W121 (Or.inl (List.mem_of_getElem? (i := 1) rfl))
  show Go _ _ _ _ _ _ _ T121 (mkF m 39 #[.val (.ref ao), .val (.long jv), .second, .val (.int (8 : Int32)), .val (.int (2 : Int32))] [])
  refine Go.step (fun _ k => XS.iinc X121.here hx rfl (hb hby d11_39) rfl (l' := #[.val (.ref ao), .val (.long jv), .second, .val (.int (8 : Int32)), .val (.int (3 : Int32))]) rfl k) ?_
  show Go _ _ _ _ _ _ _ T121 (mkF m 42 #[.val (.ref ao), .val (.long jv), .second, .val (.int (8 : Int32)), .val (.int (3 : Int32))] [])
  refine Go.step (fun _ k => XS.goto X121.here hx rfl (pc0 := 42) (pc' := 8) rfl (hb hby d11_42) (by decide) (by decide) k) ?_
  show Go _ _ _ _ _ _ _ T121 (mkF m 8 #[.val (.ref ao), .val (.long jv), .second, .val (.int (8 : Int32)), .val (.int (3 : Int32))] [])
  refine Go.step (fun _ k => XS.iload X121.here hx rfl (hb hby d11_8) rfl k) ?_
  show Go _ _ _ _ _ _ _ T121 (mkF m 10 #[.val (.ref ao), .val (.long jv), .second, .val (.int (8 : Int32)), .val (.int (3 : Int32))] [(.int (3 : Int32))])
  refine Go.step (fun _ k => XS.iloadN X121.here hx rfl (hb hby d11_10) rfl k) ?_
  show Go _ _ _ _ _ _ _ T121 (mkF m 11 #[.val (.ref ao), .val (.long jv), .second, .val (.int (8 : Int32)), .val (.int (3 : Int32))] [(.int (8 : Int32)), (.int (3 : Int32))])
  have hc11_122 : (3 : Int32) < (8 : Int32) := (by decide)
  refine Go.step (fun _ k => XS.icmpNo X121.here hx rfl (hb hby d11_11) rfl (tlt hc11_122).2.1 k) ?_
  show Go _ _ _ _ _ _ _ T121 (mkF m 14 #[.val (.ref ao), .val (.long jv), .second, .val (.int (8 : Int32)), .val (.int (3 : Int32))] [])
  refine Go.step (fun _ k => XS.aloadN X121.here hx rfl (hb hby d11_14) rfl rfl k) ?_
  show Go _ _ _ _ _ _ _ T121 (mkF m 15 #[.val (.ref ao), .val (.long jv), .second, .val (.int (8 : Int32)), .val (.int (3 : Int32))] [(.ref ao)])
  have f123 : Fld Z h121 ao "com/example/stitchwire/stitchwire/Output" "buffer" "[B" (.ref ab) := ((f114.other W119 (Or.inr (slot_ne (a0 := a0) (C := "com/example/stitchwire/stitchwire/Output") (Or.inl (hw _ (List.mem_of_getElem? (i := 11) rfl))) (Or.inl (hw _ (List.mem_of_getElem? (i := 22) rfl))) (by decide) (t := (.array .byte)) (t' := .int) (by decide) (by decide)))).other W121 (Or.inl ne0))
  obtain ⟨T124, X124, e124, st124⟩ := getF X121 hx hZ hown (host := "") (Or.inl (hw _ (List.mem_of_getElem? (i := 10) rfl))) Via.refl e121 f123 (g := (mkF m 15 #[.val (.ref ao), .val (.long jv), .second, .val (.int (8 : Int32)), .val (.int (3 : Int32))] [(.ref ao)])) rfl rfl (hb hby d11_15)
  refine Go.step st124 ?_
  show Go _ _ _ _ _ _ _ T124 (mkF m 18 #[.val (.ref ao), .val (.long jv), .second, .val (.int (8 : Int32)), .val (.int (3 : Int32))] [(.ref ab)])
  refine Go.step (fun _ k => XS.aloadN X124.here hx rfl (hb hby d11_18) rfl rfl k) ?_
  show Go _ _ _ _ _ _ _ T124 (mkF m 19 #[.val (.ref ao), .val (.long jv), .second, .val (.int (8 : Int32)), .val (.int (3 : Int32))] [(.ref ao), (.ref ab)])
  refine Go.step (fun _ k => XS.dup X124.here hx rfl (hb hby d11_19) rfl rfl k) ?_
  show Go _ _ _ _ _ _ _ T124 (mkF m 20 #[.val (.ref ao), .val (.long jv), .second, .val (.int (8 : Int32)), .val (.int (3 : Int32))] [(.ref ao), (.ref ao), (.ref ab)])
  have f125 : Fld Z h121 ao "com/example/stitchwire/stitchwire/Output" "size" "I" (.int (4 : Int32)) := (Fw119.other W121 (Or.inl ne0))
  obtain ⟨T126, X126, e126, st126⟩ := getF X124 hx hZ hown (host := "") (Or.inl (hw _ (List.mem_of_getElem? (i := 21) rfl))) Via.refl e124 f125 (g := (mkF m 20 #[.val (.ref ao), .val (.long jv), .second, .val (.int (8 : Int32)), .val (.int (3 : Int32))] [(.ref ao), (.ref ao), (.ref ab)])) rfl rfl (hb hby d11_20)
  refine Go.step st126 ?_
  show Go _ _ _ _ _ _ _ T126 (mkF m 23 #[.val (.ref ao), .val (.long jv), .second, .val (.int (8 : Int32)), .val (.int (3 : Int32))] [(.int (4 : Int32)), (.ref ao), (.ref ab)])
  refine Go.step (fun _ k => XS.dupX1 X126.here hx rfl (hb hby d11_23) rfl rfl rfl k) ?_
  show Go _ _ _ _ _ _ _ T126 (mkF m 24 #[.val (.ref ao), .val (.long jv), .second, .val (.int (8 : Int32)), .val (.int (3 : Int32))] [(.int (4 : Int32)), (.ref ao), (.int (4 : Int32)), (.ref ab)])
  refine Go.step (fun _ k => XS.iconst X126.here hx rfl (hb hby d11_24) k) ?_
  show Go _ _ _ _ _ _ _ T126 (mkF m 25 #[.val (.ref ao), .val (.long jv), .second, .val (.int (8 : Int32)), .val (.int (3 : Int32))] [(.int (1 : Int32)), (.int (4 : Int32)), (.ref ao), (.int (4 : Int32)), (.ref ab)])
  refine Go.step (fun _ k => XS.iadd X126.here hx rfl (hb hby d11_25) rfl k) ?_
  show Go _ _ _ _ _ _ _ T126 (mkF m 26 #[.val (.ref ao), .val (.long jv), .second, .val (.int (8 : Int32)), .val (.int (3 : Int32))] [(.int (5 : Int32)), (.ref ao), (.int (4 : Int32)), (.ref ab)])
  have f127 : Exa Z h121 ao "com/example/stitchwire/stitchwire/Output" := ((f118.wr W119).wr W121)
  obtain ⟨T128, h128, X128, e128, W128, st128⟩ := putF X126 hx hZ hown (host := "") (Or.inl (hw _ (List.mem_of_getElem? (i := 21) rfl))) Via.refl e126 f125 f127 (Or.inl (hw _ (List.mem_of_getElem? (i := 22) rfl))) (hw _ (List.mem_of_getElem? (i := 2) rfl)) (ty := .int) (by decide) rfl rfl (g := (mkF m 26 #[.val (.ref ao), .val (.long jv), .second, .val (.int (8 : Int32)), .val (.int (3 : Int32))] [(.int (5 : Int32)), (.ref ao), (.int (4 : Int32)), (.ref ab)])) rfl rfl (hb hby d11_26)
  refine Go.step st128 ?_
  have Fw128 := f125.same W128
  have N128 := Fr.snoc X128 N121 g0
  have Z128 : n0 ≤ h128.size := Nat.le_trans Z121 (Keep.of_wr W128).1
  have KK128 : Keep h0 h128 [ao, ab] := KK121.wr W128 (Or.inl (List.mem_of_getElem? (i := 0) rfl))
  show Go _ _ _ _ _ _ _ T128 (mkF m 29 #[.val (.ref ao), .val (.long jv), .second, .val (.int (8 : Int32)), .val (.int (3 : Int32))] [(.int (4 : Int32)), (.ref ab)])
  refine Go.step (fun _ k => XS.lloadN X128.here hx rfl (hb hby d11_29) rfl k) ?_
  show Go _ _ _ _ _ _ _ T128 (mkF m 30 #[.val (.ref ao), .val (.long jv), .second, .val (.int (8 : Int32)), .val (.int (3 : Int32))] [(.long jv), (.int (4 : Int32)), (.ref ab)])
  refine Go.step (fun _ k => XS.bipush X128.here hx rfl (hb hby d11_30) k) ?_
  show Go _ _ _ _ _ _ _ T128 (mkF m 32 #[.val (.ref ao), .val (.long jv), .second, .val (.int (8 : Int32)), .val (.int (3 : Int32))] [(.int (8 : Int32)), (.long jv), (.int (4 : Int32)), (.ref ab)])
  refine Go.step (fun _ k => XS.iload X128.here hx rfl (hb hby d11_32) rfl k) ?_
  show Go _ _ _ _ _ _ _ T128 (mkF m 34 #[.val (.ref ao), .val (.long jv), .second, .val (.int (8 : Int32)), .val (.int (3 : Int32))] [(.int (3 : Int32)), (.int (8 : Int32)), (.long jv), (.int (4 : Int32)), (.ref ab)])
  refine Go.step (fun _ k => XS.imul X128.here hx rfl (hb hby d11_34) rfl k) ?_
  show Go _ _ _ _ _ _ _ T128 (mkF m 35 #[.val (.ref ao), .val (.long jv), .second, .val (.int (8 : Int32)), .val (.int (3 : Int32))] [(.int (24 : Int32)), (.long jv), (.int (4 : Int32)), (.ref ab)])
  refine Go.step (fun _ k => XS.lushr X128.here hx rfl (hb hby d11_35) rfl k) ?_
  show Go _ _ _ _ _ _ _ T128 (mkF m 36 #[.val (.ref ao), .val (.long jv), .second, .val (.int (8 : Int32)), .val (.int (3 : Int32))] [(.long ((jv.toUInt64 >>> ((24 : Int32) &&& 0x3f).toInt64.toUInt64).toInt64)), (.int (4 : Int32)), (.ref ab)])
  refine Go.step (fun _ k => XS.l2i X128.here hx rfl (hb hby d11_36) rfl k) ?_
  show Go _ _ _ _ _ _ _ T128 (mkF m 37 #[.val (.ref ao), .val (.long jv), .second, .val (.int (8 : Int32)), .val (.int (3 : Int32))] [(.int (((jv.toUInt64 >>> ((24 : Int32) &&& 0x3f).toInt64.toUInt64).toInt64).toInt32)), (.int (4 : Int32)), (.ref ab)])
  refine Go.step (fun _ k => XS.i2b X128.here hx rfl (hb hby d11_37) rfl k) ?_
  show Go _ _ _ _ _ _ _ T128 (mkF m 38 #[.val (.ref ao), .val (.long jv), .second, .val (.int (8 : Int32)), .val (.int (3 : Int32))] [(.int ((((jv.toUInt64 >>> ((24 : Int32) &&& 0x3f).toInt64.toUInt64).toInt64).toInt32).toInt8.toInt32)), (.int (4 : Int32)), (.ref ab)])
  have f129 : Arv Z h128 ab kb .byte nN (((vs.set 1 (.int (nar .byte ((((jv.toUInt64 >>> ((0 : Int32) &&& 0x3f).toInt64.toUInt64).toInt64).toInt32).toInt8.toInt32)))).set 2 (.int (nar .byte ((((jv.toUInt64 >>> ((8 : Int32) &&& 0x3f).toInt64.toUInt64).toInt64).toInt32).toInt8.toInt32)))).set 3 (.int (nar .byte ((((jv.toUInt64 >>> ((16 : Int32) &&& 0x3f).toInt64.toUInt64).toInt64).toInt32).toInt8.toInt32)))) (.int (0 : Int32)) := (V121.other W128 (Ne.symm ne0))
  obtain ⟨cl130, Ar130, q130, S130, M130, H130, G130⟩ := id (f129)
  have hin130 : ¬ ((4 : Int32) < 0 ∨ cl130.slots.size ≤ ((4 : Int32)).toNatClampNeg) := inb_of S130 ⟨by decide, (by have : (4 : Int32).toInt = 4 := rfl; have : (64 : Int32).toInt = 64 := rfl; simp only [Int32.lt_iff_toInt_lt, Int32.le_iff_toInt_le, ← Int32.toInt_inj, Int64.lt_iff_toInt_lt, Int64.le_iff_toInt_le, ← Int64.toInt_inj] at h64 ⊢; omega)⟩
  obtain ⟨T130, h130, X130, e130, W130, st130⟩ := stB X128 hx hZ e128 Ar130 (j := (4 : Int32)) hin130 (g := (mkF m 38 #[.val (.ref ao), .val (.long jv), .second, .val (.int (8 : Int32)), .val (.int (3 : Int32))] [(.int ((((jv.toUInt64 >>> ((24 : Int32) &&& 0x3f).toInt64.toUInt64).toInt64).toInt32).toInt8.toInt32)), (.int (4 : Int32)), (.ref ab)])) rfl rfl (hb hby d11_38)
  refine Go.step st130 ?_
  have V130 : Arv Z h130 ab kb .byte nN ((((vs.set 1 (.int (nar .byte ((((jv.toUInt64 >>> ((0 : Int32) &&& 0x3f).toInt64.toUInt64).toInt64).toInt32).toInt8.toInt32)))).set 2 (.int (nar .byte ((((jv.toUInt64 >>> ((8 : Int32) &&& 0x3f).toInt64.toUInt64).toInt64).toInt32).toInt8.toInt32)))).set 3 (.int (nar .byte ((((jv.toUInt64 >>> ((16 : Int32) &&& 0x3f).toInt64.toUInt64).toInt64).toInt32).toInt8.toInt32)))).set 4 (.int (nar .byte ((((jv.toUInt64 >>> ((24 : Int32) &&& 0x3f).toInt64.toUInt64).toInt64).toInt32).toInt8.toInt32)))) (.int (0 : Int32)) := Arv.set Ar130 q130 S130 M130 H130 G130 (fits_nar_byte _) W130 4 rfl (by (try simp only [List.length_set]); exact Nat.lt_of_lt_of_le (by decide) (own_64 h64 hlen))
  have N130 := Fr.snoc X130 N128 g1
  have Z130 : n0 ≤ h130.size := Nat.le_trans Z128 (Keep.of_wr W130).1
  have KK130 : Keep h0 h130 [ao, ab] := KK128.wr W130 (Or.inl (List.mem_of_getElem? (i := 1) rfl))
  show Go _ _ _ _ _ _ _ T130 (mkF m 39 #[.val (.ref ao), .val (.long jv), .second, .val (.int (8 : Int32)), .val (.int (3 : Int32))] [])
  refine Go.step (fun _ k => XS.iinc X130.here hx rfl (hb hby d11_39) rfl (l' := #[.val (.ref ao), .val (.long jv), .second, .val (.int (8 : Int32)), .val (.int (4 : Int32))]) rfl k) ?_
  show Go _ _ _ _ _ _ _ T130 (mkF m 42 #[.val (.ref ao), .val (.long jv), .second, .val (.int (8 : Int32)), .val (.int (4 : Int32))] [])
  refine Go.step (fun _ k => XS.goto X130.here hx rfl (pc0 := 42) (pc' := 8) rfl (hb hby d11_42) (by decide) (by decide) k) ?_
  show Go _ _ _ _ _ _ _ T130 (mkF m 8 #[.val (.ref ao), .val (.long jv), .second, .val (.int (8 : Int32)), .val (.int (4 : Int32))] [])
  refine Go.step (fun _ k => XS.iload X130.here hx rfl (hb hby d11_8) rfl k) ?_
  show Go _ _ _ _ _ _ _ T130 (mkF m 10 #[.val (.ref ao), .val (.long jv), .second, .val (.int (8 : Int32)), .val (.int (4 : Int32))] [(.int (4 : Int32))])
  refine Go.step (fun _ k => XS.iloadN X130.here hx rfl (hb hby d11_10) rfl k) ?_
  show Go _ _ _ _ _ _ _ T130 (mkF m 11 #[.val (.ref ao), .val (.long jv), .second, .val (.int (8 : Int32)), .val (.int (4 : Int32))] [(.int (8 : Int32)), (.int (4 : Int32))])
  have hc11_131 : (4 : Int32) < (8 : Int32) := (by decide)
  refine Go.step (fun _ k => XS.icmpNo X130.here hx rfl (hb hby d11_11) rfl (tlt hc11_131).2.1 k) ?_
  show Go _ _ _ _ _ _ _ T130 (mkF m 14 #[.val (.ref ao), .val (.long jv), .second, .val (.int (8 : Int32)), .val (.int (4 : Int32))] [])
  refine Go.step (fun _ k => XS.aloadN X130.here hx rfl (hb hby d11_14) rfl rfl k) ?_
  show Go _ _ _ _ _ _ _ T130 (mkF m 15 #[.val (.ref ao), .val (.long jv), .second, .val (.int (8 : Int32)), .val (.int (4 : Int32))] [(.ref ao)])
  have f132 : Fld Z h130 ao "com/example/stitchwire/stitchwire/Output" "buffer" "[B" (.ref ab) := ((f123.other W128 (Or.inr (slot_ne (a0 := a0) (C := "com/example/stitchwire/stitchwire/Output") (Or.inl (hw _ (List.mem_of_getElem? (i := 11) rfl))) (Or.inl (hw _ (List.mem_of_getElem? (i := 22) rfl))) (by decide) (t := (.array .byte)) (t' := .int) (by decide) (by decide)))).other W130 (Or.inl ne0))
  obtain ⟨T133, X133, e133, st133⟩ := getF X130 hx hZ hown (host := "") (Or.inl (hw _ (List.mem_of_getElem? (i := 10) rfl))) Via.refl e130 f132 (g := (mkF m 15 #[.val (.ref ao), .val (.long jv), .second, .val (.int (8 : Int32)), .val (.int (4 : Int32))] [(.ref ao)])) rfl rfl (hb hby d11_15)
  refine Go.step st133 ?_
  show Go _ _ _ _ _ _ _ T133 (mkF m 18 #[.val (.ref ao), .val (.long jv), .second, .val (.int (8 : Int32)), .val (.int (4 : Int32))] [(.ref ab)])
  refine Go.step (fun _ k => XS.aloadN X133.here hx rfl (hb hby d11_18) rfl rfl k) ?_
  show Go _ _ _ _ _ _ _ T133 (mkF m 19 #[.val (.ref ao), .val (.long jv), .second, .val (.int (8 : Int32)), .val (.int (4 : Int32))] [(.ref ao), (.ref ab)])
  refine Go.step (fun _ k => XS.dup X133.here hx rfl (hb hby d11_19) rfl rfl k) ?_
  show Go _ _ _ _ _ _ _ T133 (mkF m 20 #[.val (.ref ao), .val (.long jv), .second, .val (.int (8 : Int32)), .val (.int (4 : Int32))] [(.ref ao), (.ref ao), (.ref ab)])
  have f134 : Fld Z h130 ao "com/example/stitchwire/stitchwire/Output" "size" "I" (.int (5 : Int32)) := (Fw128.other W130 (Or.inl ne0))
  obtain ⟨T135, X135, e135, st135⟩ := getF X133 hx hZ hown (host := "") (Or.inl (hw _ (List.mem_of_getElem? (i := 21) rfl))) Via.refl e133 f134 (g := (mkF m 20 #[.val (.ref ao), .val (.long jv), .second, .val (.int (8 : Int32)), .val (.int (4 : Int32))] [(.ref ao), (.ref ao), (.ref ab)])) rfl rfl (hb hby d11_20)
  refine Go.step st135 ?_
  show Go _ _ _ _ _ _ _ T135 (mkF m 23 #[.val (.ref ao), .val (.long jv), .second, .val (.int (8 : Int32)), .val (.int (4 : Int32))] [(.int (5 : Int32)), (.ref ao), (.ref ab)])
  refine Go.step (fun _ k => XS.dupX1 X135.here hx rfl (hb hby d11_23) rfl rfl rfl k) ?_
  show Go _ _ _ _ _ _ _ T135 (mkF m 24 #[.val (.ref ao), .val (.long jv), .second, .val (.int (8 : Int32)), .val (.int (4 : Int32))] [(.int (5 : Int32)), (.ref ao), (.int (5 : Int32)), (.ref ab)])
  refine Go.step (fun _ k => XS.iconst X135.here hx rfl (hb hby d11_24) k) ?_
  show Go _ _ _ _ _ _ _ T135 (mkF m 25 #[.val (.ref ao), .val (.long jv), .second, .val (.int (8 : Int32)), .val (.int (4 : Int32))] [(.int (1 : Int32)), (.int (5 : Int32)), (.ref ao), (.int (5 : Int32)), (.ref ab)])
  refine Go.step (fun _ k => XS.iadd X135.here hx rfl (hb hby d11_25) rfl k) ?_
  show Go _ _ _ _ _ _ _ T135 (mkF m 26 #[.val (.ref ao), .val (.long jv), .second, .val (.int (8 : Int32)), .val (.int (4 : Int32))] [(.int (6 : Int32)), (.ref ao), (.int (5 : Int32)), (.ref ab)])
  have f136 : Exa Z h130 ao "com/example/stitchwire/stitchwire/Output" := ((f127.wr W128).wr W130)
  obtain ⟨T137, h137, X137, e137, W137, st137⟩ := putF X135 hx hZ hown (host := "") (Or.inl (hw _ (List.mem_of_getElem? (i := 21) rfl))) Via.refl e135 f134 f136 (Or.inl (hw _ (List.mem_of_getElem? (i := 22) rfl))) (hw _ (List.mem_of_getElem? (i := 2) rfl)) (ty := .int) (by decide) rfl rfl (g := (mkF m 26 #[.val (.ref ao), .val (.long jv), .second, .val (.int (8 : Int32)), .val (.int (4 : Int32))] [(.int (6 : Int32)), (.ref ao), (.int (5 : Int32)), (.ref ab)])) rfl rfl (hb hby d11_26)
  refine Go.step st137 ?_
  have Fw137 := f134.same W137
  have N137 := Fr.snoc X137 N130 g0
  have Z137 : n0 ≤ h137.size := Nat.le_trans Z130 (Keep.of_wr W137).1
  have KK137 : Keep h0 h137 [ao, ab] := KK130.wr W137 (Or.inl (List.mem_of_getElem? (i := 0) rfl))
  show Go _ _ _ _ _ _ _ T137 (mkF m 29 #[.val (.ref ao), .val (.long jv), .second, .val (.int (8 : Int32)), .val (.int (4 : Int32))] [(.int (5 : Int32)), (.ref ab)])
  refine Go.step (fun _ k => XS.lloadN X137.here hx rfl (hb hby d11_29) rfl k) ?_
  show Go _ _ _ _ _ _ _ T137 (mkF m 30 #[.val (.ref ao), .val (.long jv), .second, .val (.int (8 : Int32)), .val (.int (4 : Int32))] [(.long jv), (.int (5 : Int32)), (.ref ab)])
  refine Go.step (fun _ k => XS.bipush X137.here hx rfl (hb hby d11_30) k) ?_
  show Go _ _ _ _ _ _ _ T137 (mkF m 32 #[.val (.ref ao), .val (.long jv), .second, .val (.int (8 : Int32)), .val (.int (4 : Int32))] [(.int (8 : Int32)), (.long jv), (.int (5 : Int32)), (.ref ab)])
  refine Go.step (fun _ k => XS.iload X137.here hx rfl (hb hby d11_32) rfl k) ?_
  show Go _ _ _ _ _ _ _ T137 (mkF m 34 #[.val (.ref ao), .val (.long jv), .second, .val (.int (8 : Int32)), .val (.int (4 : Int32))] [(.int (4 : Int32)), (.int (8 : Int32)), (.long jv), (.int (5 : Int32)), (.ref ab)])
  refine Go.step (fun _ k => XS.imul X137.here hx rfl (hb hby d11_34) rfl k) ?_
  show Go _ _ _ _ _ _ _ T137 (mkF m 35 #[.val (.ref ao), .val (.long jv), .second, .val (.int (8 : Int32)), .val (.int (4 : Int32))] [(.int (32 : Int32)), (.long jv), (.int (5 : Int32)), (.ref ab)])
  refine Go.step (fun _ k => XS.lushr X137.here hx rfl (hb hby d11_35) rfl k) ?_
  show Go _ _ _ _ _ _ _ T137 (mkF m 36 #[.val (.ref ao), .val (.long jv), .second, .val (.int (8 : Int32)), .val (.int (4 : Int32))] [(.long ((jv.toUInt64 >>> ((32 : Int32) &&& 0x3f).toInt64.toUInt64).toInt64)), (.int (5 : Int32)), (.ref ab)])
  refine Go.step (fun _ k => XS.l2i X137.here hx rfl (hb hby d11_36) rfl k) ?_
  show Go _ _ _ _ _ _ _ T137 (mkF m 37 #[.val (.ref ao), .val (.long jv), .second, .val (.int (8 : Int32)), .val (.int (4 : Int32))] [(.int (((jv.toUInt64 >>> ((32 : Int32) &&& 0x3f).toInt64.toUInt64).toInt64).toInt32)), (.int (5 : Int32)), (.ref ab)])
  refine Go.step (fun _ k => XS.i2b X137.here hx rfl (hb hby d11_37) rfl k) ?_
  show Go _ _ _ _ _ _ _ T137 (mkF m 38 #[.val (.ref ao), .val (.long jv), .second, .val (.int (8 : Int32)), .val (.int (4 : Int32))] [(.int ((((jv.toUInt64 >>> ((32 : Int32) &&& 0x3f).toInt64.toUInt64).toInt64).toInt32).toInt8.toInt32)), (.int (5 : Int32)), (.ref ab)])
  have f138 : Arv Z h137 ab kb .byte nN ((((vs.set 1 (.int (nar .byte ((((jv.toUInt64 >>> ((0 : Int32) &&& 0x3f).toInt64.toUInt64).toInt64).toInt32).toInt8.toInt32)))).set 2 (.int (nar .byte ((((jv.toUInt64 >>> ((8 : Int32) &&& 0x3f).toInt64.toUInt64).toInt64).toInt32).toInt8.toInt32)))).set 3 (.int (nar .byte ((((jv.toUInt64 >>> ((16 : Int32) &&& 0x3f).toInt64.toUInt64).toInt64).toInt32).toInt8.toInt32)))).set 4 (.int (nar .byte ((((jv.toUInt64 >>> ((24 : Int32) &&& 0x3f).toInt64.toUInt64).toInt64).toInt32).toInt8.toInt32)))) (.int (0 : Int32)) := (V130.other W137 (Ne.symm ne0))
  obtain ⟨cl139, Ar139, q139, S139, M139, H139, G139⟩ := id (f138)
  have hin139 : ¬ ((5 : Int32) < 0 ∨ cl139.slots.size ≤ ((5 : Int32)).toNatClampNeg) := inb_of S139 ⟨by decide, (by have : (5 : Int32).toInt = 5 := rfl; have : (64 : Int32).toInt = 64 := rfl; simp only [Int32.lt_iff_toInt_lt, Int32.le_iff_toInt_le, ← Int32.toInt_inj, Int64.lt_iff_toInt_lt, Int64.le_iff_toInt_le, ← Int64.toInt_inj] at h64 ⊢; omega)⟩
  obtain ⟨T139, h139, X139, e139, W139, st139⟩ := stB X137 hx hZ e137 Ar139 (j := (5 : Int32)) hin139 (g := (mkF m 38 #[.val (.ref ao), .val (.long jv), .second, .val (.int (8 : Int32)), .val (.int (4 : Int32))] [(.int ((((jv.toUInt64 >>> ((32 : Int32) &&& 0x3f).toInt64.toUInt64).toInt64).toInt32).toInt8.toInt32)), (.int (5 : Int32)), (.ref ab)])) rfl rfl (hb hby d11_38)
  refine Go.step st139 ?_
  have V139 : Arv Z h139 ab kb .byte nN (((((vs.set 1 (.int (nar .byte ((((jv.toUInt64 >>> ((0 : Int32) &&& 0x3f).toInt64.toUInt64).toInt64).toInt32).toInt8.toInt32)))).set 2 (.int (nar .byte ((((jv.toUInt64 >>> ((8 : Int32) &&& 0x3f).toInt64.toUInt64).toInt64).toInt32).toInt8.toInt32)))).set 3 (.int (nar .byte ((((jv.toUInt64 >>> ((16 : Int32) &&& 0x3f).toInt64.toUInt64).toInt64).toInt32).toInt8.toInt32)))).set 4 (.int (nar .byte ((((jv.toUInt64 >>> ((24 : Int32) &&& 0x3f).toInt64.toUInt64).toInt64).toInt32).toInt8.toInt32)))).set 5 (.int (nar .byte ((((jv.toUInt64 >>> ((32 : Int32) &&& 0x3f).toInt64.toUInt64).toInt64).toInt32).toInt8.toInt32)))) (.int (0 : Int32)) := Arv.set Ar139 q139 S139 M139 H139 G139 (fits_nar_byte _) W139 5 rfl (by (try simp only [List.length_set]); exact Nat.lt_of_lt_of_le (by decide) (own_64 h64 hlen))
  have N139 := Fr.snoc X139 N137 g1
  have Z139 : n0 ≤ h139.size := Nat.le_trans Z137 (Keep.of_wr W139).1
  have KK139 : Keep h0 h139 [ao, ab] := KK137.wr W139 (Or.inl (List.mem_of_getElem? (i := 1) rfl))
  show Go _ _ _ _ _ _ _ T139 (mkF m 39 #[.val (.ref ao), .val (.long jv), .second, .val (.int (8 : Int32)), .val (.int (4 : Int32))] [])
  refine Go.step (fun _ k => XS.iinc X139.here hx rfl (hb hby d11_39) rfl (l' := #[.val (.ref ao), .val (.long jv), .second, .val (.int (8 : Int32)), .val (.int (5 : Int32))]) rfl k) ?_
  show Go _ _ _ _ _ _ _ T139 (mkF m 42 #[.val (.ref ao), .val (.long jv), .second, .val (.int (8 : Int32)), .val (.int (5 : Int32))] [])
  refine Go.step (fun _ k => XS.goto X139.here hx rfl (pc0 := 42) (pc' := 8) rfl (hb hby d11_42) (by decide) (by decide) k) ?_
  show Go _ _ _ _ _ _ _ T139 (mkF m 8 #[.val (.ref ao), .val (.long jv), .second, .val (.int (8 : Int32)), .val (.int (5 : Int32))] [])
  refine Go.step (fun _ k => XS.iload X139.here hx rfl (hb hby d11_8) rfl k) ?_
  show Go _ _ _ _ _ _ _ T139 (mkF m 10 #[.val (.ref ao), .val (.long jv), .second, .val (.int (8 : Int32)), .val (.int (5 : Int32))] [(.int (5 : Int32))])
  refine Go.step (fun _ k => XS.iloadN X139.here hx rfl (hb hby d11_10) rfl k) ?_
  show Go _ _ _ _ _ _ _ T139 (mkF m 11 #[.val (.ref ao), .val (.long jv), .second, .val (.int (8 : Int32)), .val (.int (5 : Int32))] [(.int (8 : Int32)), (.int (5 : Int32))])
  have hc11_140 : (5 : Int32) < (8 : Int32) := (by decide)
  refine Go.step (fun _ k => XS.icmpNo X139.here hx rfl (hb hby d11_11) rfl (tlt hc11_140).2.1 k) ?_
  show Go _ _ _ _ _ _ _ T139 (mkF m 14 #[.val (.ref ao), .val (.long jv), .second, .val (.int (8 : Int32)), .val (.int (5 : Int32))] [])
  refine Go.step (fun _ k => XS.aloadN X139.here hx rfl (hb hby d11_14) rfl rfl k) ?_
  show Go _ _ _ _ _ _ _ T139 (mkF m 15 #[.val (.ref ao), .val (.long jv), .second, .val (.int (8 : Int32)), .val (.int (5 : Int32))] [(.ref ao)])
  have f141 : Fld Z h139 ao "com/example/stitchwire/stitchwire/Output" "buffer" "[B" (.ref ab) := ((f132.other W137 (Or.inr (slot_ne (a0 := a0) (C := "com/example/stitchwire/stitchwire/Output") (Or.inl (hw _ (List.mem_of_getElem? (i := 11) rfl))) (Or.inl (hw _ (List.mem_of_getElem? (i := 22) rfl))) (by decide) (t := (.array .byte)) (t' := .int) (by decide) (by decide)))).other W139 (Or.inl ne0))
  obtain ⟨T142, X142, e142, st142⟩ := getF X139 hx hZ hown (host := "") (Or.inl (hw _ (List.mem_of_getElem? (i := 10) rfl))) Via.refl e139 f141 (g := (mkF m 15 #[.val (.ref ao), .val (.long jv), .second, .val (.int (8 : Int32)), .val (.int (5 : Int32))] [(.ref ao)])) rfl rfl (hb hby d11_15)
  refine Go.step st142 ?_
  show Go _ _ _ _ _ _ _ T142 (mkF m 18 #[.val (.ref ao), .val (.long jv), .second, .val (.int (8 : Int32)), .val (.int (5 : Int32))] [(.ref ab)])
  refine Go.step (fun _ k => XS.aloadN X142.here hx rfl (hb hby d11_18) rfl rfl k) ?_
  show Go _ _ _ _ _ _ _ T142 (mkF m 19 #[.val (.ref ao), .val (.long jv), .second, .val (.int (8 : Int32)), .val (.int (5 : Int32))] [(.ref ao), (.ref ab)])
  refine Go.step (fun _ k => XS.dup X142.here hx rfl (hb hby d11_19) rfl rfl k) ?_
  show Go _ _ _ _ _ _ _ T142 (mkF m 20 #[.val (.ref ao), .val (.long jv), .second, .val (.int (8 : Int32)), .val (.int (5 : Int32))] [(.ref ao), (.ref ao), (.ref ab)])
  have f143 : Fld Z h139 ao "com/example/stitchwire/stitchwire/Output" "size" "I" (.int (6 : Int32)) := (Fw137.other W139 (Or.inl ne0))
  obtain ⟨T144, X144, e144, st144⟩ := getF X142 hx hZ hown (host := "") (Or.inl (hw _ (List.mem_of_getElem? (i := 21) rfl))) Via.refl e142 f143 (g := (mkF m 20 #[.val (.ref ao), .val (.long jv), .second, .val (.int (8 : Int32)), .val (.int (5 : Int32))] [(.ref ao), (.ref ao), (.ref ab)])) rfl rfl (hb hby d11_20)
  refine Go.step st144 ?_
  show Go _ _ _ _ _ _ _ T144 (mkF m 23 #[.val (.ref ao), .val (.long jv), .second, .val (.int (8 : Int32)), .val (.int (5 : Int32))] [(.int (6 : Int32)), (.ref ao), (.ref ab)])
  refine Go.step (fun _ k => XS.dupX1 X144.here hx rfl (hb hby d11_23) rfl rfl rfl k) ?_
  show Go _ _ _ _ _ _ _ T144 (mkF m 24 #[.val (.ref ao), .val (.long jv), .second, .val (.int (8 : Int32)), .val (.int (5 : Int32))] [(.int (6 : Int32)), (.ref ao), (.int (6 : Int32)), (.ref ab)])
  refine Go.step (fun _ k => XS.iconst X144.here hx rfl (hb hby d11_24) k) ?_
  show Go _ _ _ _ _ _ _ T144 (mkF m 25 #[.val (.ref ao), .val (.long jv), .second, .val (.int (8 : Int32)), .val (.int (5 : Int32))] [(.int (1 : Int32)), (.int (6 : Int32)), (.ref ao), (.int (6 : Int32)), (.ref ab)])
  refine Go.step (fun _ k => XS.iadd X144.here hx rfl (hb hby d11_25) rfl k) ?_
  show Go _ _ _ _ _ _ _ T144 (mkF m 26 #[.val (.ref ao), .val (.long jv), .second, .val (.int (8 : Int32)), .val (.int (5 : Int32))] [(.int (7 : Int32)), (.ref ao), (.int (6 : Int32)), (.ref ab)])
  have f145 : Exa Z h139 ao "com/example/stitchwire/stitchwire/Output" := ((f136.wr W137).wr W139)
  obtain ⟨T146, h146, X146, e146, W146, st146⟩ := putF X144 hx hZ hown (host := "") (Or.inl (hw _ (List.mem_of_getElem? (i := 21) rfl))) Via.refl e144 f143 f145 (Or.inl (hw _ (List.mem_of_getElem? (i := 22) rfl))) (hw _ (List.mem_of_getElem? (i := 2) rfl)) (ty := .int) (by decide) rfl rfl (g := (mkF m 26 #[.val (.ref ao), .val (.long jv), .second, .val (.int (8 : Int32)), .val (.int (5 : Int32))] [(.int (7 : Int32)), (.ref ao), (.int (6 : Int32)), (.ref ab)])) rfl rfl (hb hby d11_26)
  refine Go.step st146 ?_
  have Fw146 := f143.same W146
  have N146 := Fr.snoc X146 N139 g0
  have Z146 : n0 ≤ h146.size := Nat.le_trans Z139 (Keep.of_wr W146).1
  have KK146 : Keep h0 h146 [ao, ab] := KK139.wr W146 (Or.inl (List.mem_of_getElem? (i := 0) rfl))
  show Go _ _ _ _ _ _ _ T146 (mkF m 29 #[.val (.ref ao), .val (.long jv), .second, .val (.int (8 : Int32)), .val (.int (5 : Int32))] [(.int (6 : Int32)), (.ref ab)])
  refine Go.step (fun _ k => XS.lloadN X146.here hx rfl (hb hby d11_29) rfl k) ?_
  show Go _ _ _ _ _ _ _ T146 (mkF m 30 #[.val (.ref ao), .val (.long jv), .second, .val (.int (8 : Int32)), .val (.int (5 : Int32))] [(.long jv), (.int (6 : Int32)), (.ref ab)])
  refine Go.step (fun _ k => XS.bipush X146.here hx rfl (hb hby d11_30) k) ?_
  show Go _ _ _ _ _ _ _ T146 (mkF m 32 #[.val (.ref ao), .val (.long jv), .second, .val (.int (8 : Int32)), .val (.int (5 : Int32))] [(.int (8 : Int32)), (.long jv), (.int (6 : Int32)), (.ref ab)])
  refine Go.step (fun _ k => XS.iload X146.here hx rfl (hb hby d11_32) rfl k) ?_
  show Go _ _ _ _ _ _ _ T146 (mkF m 34 #[.val (.ref ao), .val (.long jv), .second, .val (.int (8 : Int32)), .val (.int (5 : Int32))] [(.int (5 : Int32)), (.int (8 : Int32)), (.long jv), (.int (6 : Int32)), (.ref ab)])
  refine Go.step (fun _ k => XS.imul X146.here hx rfl (hb hby d11_34) rfl k) ?_
  show Go _ _ _ _ _ _ _ T146 (mkF m 35 #[.val (.ref ao), .val (.long jv), .second, .val (.int (8 : Int32)), .val (.int (5 : Int32))] [(.int (40 : Int32)), (.long jv), (.int (6 : Int32)), (.ref ab)])
  refine Go.step (fun _ k => XS.lushr X146.here hx rfl (hb hby d11_35) rfl k) ?_
  show Go _ _ _ _ _ _ _ T146 (mkF m 36 #[.val (.ref ao), .val (.long jv), .second, .val (.int (8 : Int32)), .val (.int (5 : Int32))] [(.long ((jv.toUInt64 >>> ((40 : Int32) &&& 0x3f).toInt64.toUInt64).toInt64)), (.int (6 : Int32)), (.ref ab)])
  refine Go.step (fun _ k => XS.l2i X146.here hx rfl (hb hby d11_36) rfl k) ?_
  show Go _ _ _ _ _ _ _ T146 (mkF m 37 #[.val (.ref ao), .val (.long jv), .second, .val (.int (8 : Int32)), .val (.int (5 : Int32))] [(.int (((jv.toUInt64 >>> ((40 : Int32) &&& 0x3f).toInt64.toUInt64).toInt64).toInt32)), (.int (6 : Int32)), (.ref ab)])
  refine Go.step (fun _ k => XS.i2b X146.here hx rfl (hb hby d11_37) rfl k) ?_
  show Go _ _ _ _ _ _ _ T146 (mkF m 38 #[.val (.ref ao), .val (.long jv), .second, .val (.int (8 : Int32)), .val (.int (5 : Int32))] [(.int ((((jv.toUInt64 >>> ((40 : Int32) &&& 0x3f).toInt64.toUInt64).toInt64).toInt32).toInt8.toInt32)), (.int (6 : Int32)), (.ref ab)])
  have f147 : Arv Z h146 ab kb .byte nN (((((vs.set 1 (.int (nar .byte ((((jv.toUInt64 >>> ((0 : Int32) &&& 0x3f).toInt64.toUInt64).toInt64).toInt32).toInt8.toInt32)))).set 2 (.int (nar .byte ((((jv.toUInt64 >>> ((8 : Int32) &&& 0x3f).toInt64.toUInt64).toInt64).toInt32).toInt8.toInt32)))).set 3 (.int (nar .byte ((((jv.toUInt64 >>> ((16 : Int32) &&& 0x3f).toInt64.toUInt64).toInt64).toInt32).toInt8.toInt32)))).set 4 (.int (nar .byte ((((jv.toUInt64 >>> ((24 : Int32) &&& 0x3f).toInt64.toUInt64).toInt64).toInt32).toInt8.toInt32)))).set 5 (.int (nar .byte ((((jv.toUInt64 >>> ((32 : Int32) &&& 0x3f).toInt64.toUInt64).toInt64).toInt32).toInt8.toInt32)))) (.int (0 : Int32)) := (V139.other W146 (Ne.symm ne0))
  obtain ⟨cl148, Ar148, q148, S148, M148, H148, G148⟩ := id (f147)
  have hin148 : ¬ ((6 : Int32) < 0 ∨ cl148.slots.size ≤ ((6 : Int32)).toNatClampNeg) := inb_of S148 ⟨by decide, (by have : (6 : Int32).toInt = 6 := rfl; have : (64 : Int32).toInt = 64 := rfl; simp only [Int32.lt_iff_toInt_lt, Int32.le_iff_toInt_le, ← Int32.toInt_inj, Int64.lt_iff_toInt_lt, Int64.le_iff_toInt_le, ← Int64.toInt_inj] at h64 ⊢; omega)⟩
  obtain ⟨T148, h148, X148, e148, W148, st148⟩ := stB X146 hx hZ e146 Ar148 (j := (6 : Int32)) hin148 (g := (mkF m 38 #[.val (.ref ao), .val (.long jv), .second, .val (.int (8 : Int32)), .val (.int (5 : Int32))] [(.int ((((jv.toUInt64 >>> ((40 : Int32) &&& 0x3f).toInt64.toUInt64).toInt64).toInt32).toInt8.toInt32)), (.int (6 : Int32)), (.ref ab)])) rfl rfl (hb hby d11_38)
  refine Go.step st148 ?_
  have V148 : Arv Z h148 ab kb .byte nN ((((((vs.set 1 (.int (nar .byte ((((jv.toUInt64 >>> ((0 : Int32) &&& 0x3f).toInt64.toUInt64).toInt64).toInt32).toInt8.toInt32)))).set 2 (.int (nar .byte ((((jv.toUInt64 >>> ((8 : Int32) &&& 0x3f).toInt64.toUInt64).toInt64).toInt32).toInt8.toInt32)))).set 3 (.int (nar .byte ((((jv.toUInt64 >>> ((16 : Int32) &&& 0x3f).toInt64.toUInt64).toInt64).toInt32).toInt8.toInt32)))).set 4 (.int (nar .byte ((((jv.toUInt64 >>> ((24 : Int32) &&& 0x3f).toInt64.toUInt64).toInt64).toInt32).toInt8.toInt32)))).set 5 (.int (nar .byte ((((jv.toUInt64 >>> ((32 : Int32) &&& 0x3f).toInt64.toUInt64).toInt64).toInt32).toInt8.toInt32)))).set 6 (.int (nar .byte ((((jv.toUInt64 >>> ((40 : Int32) &&& 0x3f).toInt64.toUInt64).toInt64).toInt32).toInt8.toInt32)))) (.int (0 : Int32)) := Arv.set Ar148 q148 S148 M148 H148 G148 (fits_nar_byte _) W148 6 rfl (by (try simp only [List.length_set]); exact Nat.lt_of_lt_of_le (by decide) (own_64 h64 hlen))
  have N148 := Fr.snoc X148 N146 g1
  have Z148 : n0 ≤ h148.size := Nat.le_trans Z146 (Keep.of_wr W148).1
  have KK148 : Keep h0 h148 [ao, ab] := KK146.wr W148 (Or.inl (List.mem_of_getElem? (i := 1) rfl))
  show Go _ _ _ _ _ _ _ T148 (mkF m 39 #[.val (.ref ao), .val (.long jv), .second, .val (.int (8 : Int32)), .val (.int (5 : Int32))] [])
  refine Go.step (fun _ k => XS.iinc X148.here hx rfl (hb hby d11_39) rfl (l' := #[.val (.ref ao), .val (.long jv), .second, .val (.int (8 : Int32)), .val (.int (6 : Int32))]) rfl k) ?_
  show Go _ _ _ _ _ _ _ T148 (mkF m 42 #[.val (.ref ao), .val (.long jv), .second, .val (.int (8 : Int32)), .val (.int (6 : Int32))] [])
  refine Go.step (fun _ k => XS.goto X148.here hx rfl (pc0 := 42) (pc' := 8) rfl (hb hby d11_42) (by decide) (by decide) k) ?_
  show Go _ _ _ _ _ _ _ T148 (mkF m 8 #[.val (.ref ao), .val (.long jv), .second, .val (.int (8 : Int32)), .val (.int (6 : Int32))] [])
  refine Go.step (fun _ k => XS.iload X148.here hx rfl (hb hby d11_8) rfl k) ?_
  show Go _ _ _ _ _ _ _ T148 (mkF m 10 #[.val (.ref ao), .val (.long jv), .second, .val (.int (8 : Int32)), .val (.int (6 : Int32))] [(.int (6 : Int32))])
  refine Go.step (fun _ k => XS.iloadN X148.here hx rfl (hb hby d11_10) rfl k) ?_
  show Go _ _ _ _ _ _ _ T148 (mkF m 11 #[.val (.ref ao), .val (.long jv), .second, .val (.int (8 : Int32)), .val (.int (6 : Int32))] [(.int (8 : Int32)), (.int (6 : Int32))])
  have hc11_149 : (6 : Int32) < (8 : Int32) := (by decide)
  refine Go.step (fun _ k => XS.icmpNo X148.here hx rfl (hb hby d11_11) rfl (tlt hc11_149).2.1 k) ?_
  show Go _ _ _ _ _ _ _ T148 (mkF m 14 #[.val (.ref ao), .val (.long jv), .second, .val (.int (8 : Int32)), .val (.int (6 : Int32))] [])
  refine Go.step (fun _ k => XS.aloadN X148.here hx rfl (hb hby d11_14) rfl rfl k) ?_
  show Go _ _ _ _ _ _ _ T148 (mkF m 15 #[.val (.ref ao), .val (.long jv), .second, .val (.int (8 : Int32)), .val (.int (6 : Int32))] [(.ref ao)])
  have f150 : Fld Z h148 ao "com/example/stitchwire/stitchwire/Output" "buffer" "[B" (.ref ab) := ((f141.other W146 (Or.inr (slot_ne (a0 := a0) (C := "com/example/stitchwire/stitchwire/Output") (Or.inl (hw _ (List.mem_of_getElem? (i := 11) rfl))) (Or.inl (hw _ (List.mem_of_getElem? (i := 22) rfl))) (by decide) (t := (.array .byte)) (t' := .int) (by decide) (by decide)))).other W148 (Or.inl ne0))
  obtain ⟨T151, X151, e151, st151⟩ := getF X148 hx hZ hown (host := "") (Or.inl (hw _ (List.mem_of_getElem? (i := 10) rfl))) Via.refl e148 f150 (g := (mkF m 15 #[.val (.ref ao), .val (.long jv), .second, .val (.int (8 : Int32)), .val (.int (6 : Int32))] [(.ref ao)])) rfl rfl (hb hby d11_15)
  refine Go.step st151 ?_
  show Go _ _ _ _ _ _ _ T151 (mkF m 18 #[.val (.ref ao), .val (.long jv), .second, .val (.int (8 : Int32)), .val (.int (6 : Int32))] [(.ref ab)])
  refine Go.step (fun _ k => XS.aloadN X151.here hx rfl (hb hby d11_18) rfl rfl k) ?_
  show Go _ _ _ _ _ _ _ T151 (mkF m 19 #[.val (.ref ao), .val (.long jv), .second, .val (.int (8 : Int32)), .val (.int (6 : Int32))] [(.ref ao), (.ref ab)])
  refine Go.step (fun _ k => XS.dup X151.here hx rfl (hb hby d11_19) rfl rfl k) ?_
  show Go _ _ _ _ _ _ _ T151 (mkF m 20 #[.val (.ref ao), .val (.long jv), .second, .val (.int (8 : Int32)), .val (.int (6 : Int32))] [(.ref ao), (.ref ao), (.ref ab)])
  have f152 : Fld Z h148 ao "com/example/stitchwire/stitchwire/Output" "size" "I" (.int (7 : Int32)) := (Fw146.other W148 (Or.inl ne0))
  obtain ⟨T153, X153, e153, st153⟩ := getF X151 hx hZ hown (host := "") (Or.inl (hw _ (List.mem_of_getElem? (i := 21) rfl))) Via.refl e151 f152 (g := (mkF m 20 #[.val (.ref ao), .val (.long jv), .second, .val (.int (8 : Int32)), .val (.int (6 : Int32))] [(.ref ao), (.ref ao), (.ref ab)])) rfl rfl (hb hby d11_20)
  refine Go.step st153 ?_
  show Go _ _ _ _ _ _ _ T153 (mkF m 23 #[.val (.ref ao), .val (.long jv), .second, .val (.int (8 : Int32)), .val (.int (6 : Int32))] [(.int (7 : Int32)), (.ref ao), (.ref ab)])
  refine Go.step (fun _ k => XS.dupX1 X153.here hx rfl (hb hby d11_23) rfl rfl rfl k) ?_
  show Go _ _ _ _ _ _ _ T153 (mkF m 24 #[.val (.ref ao), .val (.long jv), .second, .val (.int (8 : Int32)), .val (.int (6 : Int32))] [(.int (7 : Int32)), (.ref ao), (.int (7 : Int32)), (.ref ab)])
  refine Go.step (fun _ k => XS.iconst X153.here hx rfl (hb hby d11_24) k) ?_
  show Go _ _ _ _ _ _ _ T153 (mkF m 25 #[.val (.ref ao), .val (.long jv), .second, .val (.int (8 : Int32)), .val (.int (6 : Int32))] [(.int (1 : Int32)), (.int (7 : Int32)), (.ref ao), (.int (7 : Int32)), (.ref ab)])
  refine Go.step (fun _ k => XS.iadd X153.here hx rfl (hb hby d11_25) rfl k) ?_
  show Go _ _ _ _ _ _ _ T153 (mkF m 26 #[.val (.ref ao), .val (.long jv), .second, .val (.int (8 : Int32)), .val (.int (6 : Int32))] [(.int (8 : Int32)), (.ref ao), (.int (7 : Int32)), (.ref ab)])
  have f154 : Exa Z h148 ao "com/example/stitchwire/stitchwire/Output" := ((f145.wr W146).wr W148)
  obtain ⟨T155, h155, X155, e155, W155, st155⟩ := putF X153 hx hZ hown (host := "") (Or.inl (hw _ (List.mem_of_getElem? (i := 21) rfl))) Via.refl e153 f152 f154 (Or.inl (hw _ (List.mem_of_getElem? (i := 22) rfl))) (hw _ (List.mem_of_getElem? (i := 2) rfl)) (ty := .int) (by decide) rfl rfl (g := (mkF m 26 #[.val (.ref ao), .val (.long jv), .second, .val (.int (8 : Int32)), .val (.int (6 : Int32))] [(.int (8 : Int32)), (.ref ao), (.int (7 : Int32)), (.ref ab)])) rfl rfl (hb hby d11_26)
  refine Go.step st155 ?_
  have Fw155 := f152.same W155
  have N155 := Fr.snoc X155 N148 g0
  have Z155 : n0 ≤ h155.size := Nat.le_trans Z148 (Keep.of_wr W155).1
  have KK155 : Keep h0 h155 [ao, ab] := KK148.wr W155 (Or.inl (List.mem_of_getElem? (i := 0) rfl))
  show Go _ _ _ _ _ _ _ T155 (mkF m 29 #[.val (.ref ao), .val (.long jv), .second, .val (.int (8 : Int32)), .val (.int (6 : Int32))] [(.int (7 : Int32)), (.ref ab)])
  refine Go.step (fun _ k => XS.lloadN X155.here hx rfl (hb hby d11_29) rfl k) ?_
  show Go _ _ _ _ _ _ _ T155 (mkF m 30 #[.val (.ref ao), .val (.long jv), .second, .val (.int (8 : Int32)), .val (.int (6 : Int32))] [(.long jv), (.int (7 : Int32)), (.ref ab)])
  refine Go.step (fun _ k => XS.bipush X155.here hx rfl (hb hby d11_30) k) ?_
  show Go _ _ _ _ _ _ _ T155 (mkF m 32 #[.val (.ref ao), .val (.long jv), .second, .val (.int (8 : Int32)), .val (.int (6 : Int32))] [(.int (8 : Int32)), (.long jv), (.int (7 : Int32)), (.ref ab)])
  refine Go.step (fun _ k => XS.iload X155.here hx rfl (hb hby d11_32) rfl k) ?_
  show Go _ _ _ _ _ _ _ T155 (mkF m 34 #[.val (.ref ao), .val (.long jv), .second, .val (.int (8 : Int32)), .val (.int (6 : Int32))] [(.int (6 : Int32)), (.int (8 : Int32)), (.long jv), (.int (7 : Int32)), (.ref ab)])
  refine Go.step (fun _ k => XS.imul X155.here hx rfl (hb hby d11_34) rfl k) ?_
  show Go _ _ _ _ _ _ _ T155 (mkF m 35 #[.val (.ref ao), .val (.long jv), .second, .val (.int (8 : Int32)), .val (.int (6 : Int32))] [(.int (48 : Int32)), (.long jv), (.int (7 : Int32)), (.ref ab)])
  refine Go.step (fun _ k => XS.lushr X155.here hx rfl (hb hby d11_35) rfl k) ?_
  show Go _ _ _ _ _ _ _ T155 (mkF m 36 #[.val (.ref ao), .val (.long jv), .second, .val (.int (8 : Int32)), .val (.int (6 : Int32))] [(.long ((jv.toUInt64 >>> ((48 : Int32) &&& 0x3f).toInt64.toUInt64).toInt64)), (.int (7 : Int32)), (.ref ab)])
  refine Go.step (fun _ k => XS.l2i X155.here hx rfl (hb hby d11_36) rfl k) ?_
  show Go _ _ _ _ _ _ _ T155 (mkF m 37 #[.val (.ref ao), .val (.long jv), .second, .val (.int (8 : Int32)), .val (.int (6 : Int32))] [(.int (((jv.toUInt64 >>> ((48 : Int32) &&& 0x3f).toInt64.toUInt64).toInt64).toInt32)), (.int (7 : Int32)), (.ref ab)])
  refine Go.step (fun _ k => XS.i2b X155.here hx rfl (hb hby d11_37) rfl k) ?_
  show Go _ _ _ _ _ _ _ T155 (mkF m 38 #[.val (.ref ao), .val (.long jv), .second, .val (.int (8 : Int32)), .val (.int (6 : Int32))] [(.int ((((jv.toUInt64 >>> ((48 : Int32) &&& 0x3f).toInt64.toUInt64).toInt64).toInt32).toInt8.toInt32)), (.int (7 : Int32)), (.ref ab)])
  have f156 : Arv Z h155 ab kb .byte nN ((((((vs.set 1 (.int (nar .byte ((((jv.toUInt64 >>> ((0 : Int32) &&& 0x3f).toInt64.toUInt64).toInt64).toInt32).toInt8.toInt32)))).set 2 (.int (nar .byte ((((jv.toUInt64 >>> ((8 : Int32) &&& 0x3f).toInt64.toUInt64).toInt64).toInt32).toInt8.toInt32)))).set 3 (.int (nar .byte ((((jv.toUInt64 >>> ((16 : Int32) &&& 0x3f).toInt64.toUInt64).toInt64).toInt32).toInt8.toInt32)))).set 4 (.int (nar .byte ((((jv.toUInt64 >>> ((24 : Int32) &&& 0x3f).toInt64.toUInt64).toInt64).toInt32).toInt8.toInt32)))).set 5 (.int (nar .byte ((((jv.toUInt64 >>> ((32 : Int32) &&& 0x3f).toInt64.toUInt64).toInt64).toInt32).toInt8.toInt32)))).set 6 (.int (nar .byte ((((jv.toUInt64 >>> ((40 : Int32) &&& 0x3f).toInt64.toUInt64).toInt64).toInt32).toInt8.toInt32)))) (.int (0 : Int32)) := (V148.other W155 (Ne.symm ne0))
  obtain ⟨cl157, Ar157, q157, S157, M157, H157, G157⟩ := id (f156)
  have hin157 : ¬ ((7 : Int32) < 0 ∨ cl157.slots.size ≤ ((7 : Int32)).toNatClampNeg) := inb_of S157 ⟨by decide, (by have : (7 : Int32).toInt = 7 := rfl; have : (64 : Int32).toInt = 64 := rfl; simp only [Int32.lt_iff_toInt_lt, Int32.le_iff_toInt_le, ← Int32.toInt_inj, Int64.lt_iff_toInt_lt, Int64.le_iff_toInt_le, ← Int64.toInt_inj] at h64 ⊢; omega)⟩
  obtain ⟨T157, h157, X157, e157, W157, st157⟩ := stB X155 hx hZ e155 Ar157 (j := (7 : Int32)) hin157 (g := (mkF m 38 #[.val (.ref ao), .val (.long jv), .second, .val (.int (8 : Int32)), .val (.int (6 : Int32))] [(.int ((((jv.toUInt64 >>> ((48 : Int32) &&& 0x3f).toInt64.toUInt64).toInt64).toInt32).toInt8.toInt32)), (.int (7 : Int32)), (.ref ab)])) rfl rfl (hb hby d11_38)
  refine Go.step st157 ?_
  have V157 : Arv Z h157 ab kb .byte nN (((((((vs.set 1 (.int (nar .byte ((((jv.toUInt64 >>> ((0 : Int32) &&& 0x3f).toInt64.toUInt64).toInt64).toInt32).toInt8.toInt32)))).set 2 (.int (nar .byte ((((jv.toUInt64 >>> ((8 : Int32) &&& 0x3f).toInt64.toUInt64).toInt64).toInt32).toInt8.toInt32)))).set 3 (.int (nar .byte ((((jv.toUInt64 >>> ((16 : Int32) &&& 0x3f).toInt64.toUInt64).toInt64).toInt32).toInt8.toInt32)))).set 4 (.int (nar .byte ((((jv.toUInt64 >>> ((24 : Int32) &&& 0x3f).toInt64.toUInt64).toInt64).toInt32).toInt8.toInt32)))).set 5 (.int (nar .byte ((((jv.toUInt64 >>> ((32 : Int32) &&& 0x3f).toInt64.toUInt64).toInt64).toInt32).toInt8.toInt32)))).set 6 (.int (nar .byte ((((jv.toUInt64 >>> ((40 : Int32) &&& 0x3f).toInt64.toUInt64).toInt64).toInt32).toInt8.toInt32)))).set 7 (.int (nar .byte ((((jv.toUInt64 >>> ((48 : Int32) &&& 0x3f).toInt64.toUInt64).toInt64).toInt32).toInt8.toInt32)))) (.int (0 : Int32)) := Arv.set Ar157 q157 S157 M157 H157 G157 (fits_nar_byte _) W157 7 rfl (by (try simp only [List.length_set]); exact Nat.lt_of_lt_of_le (by decide) (own_64 h64 hlen))
  have N157 := Fr.snoc X157 N155 g1
  have Z157 : n0 ≤ h157.size := Nat.le_trans Z155 (Keep.of_wr W157).1
  have KK157 : Keep h0 h157 [ao, ab] := KK155.wr W157 (Or.inl (List.mem_of_getElem? (i := 1) rfl))
  show Go _ _ _ _ _ _ _ T157 (mkF m 39 #[.val (.ref ao), .val (.long jv), .second, .val (.int (8 : Int32)), .val (.int (6 : Int32))] [])
  refine Go.step (fun _ k => XS.iinc X157.here hx rfl (hb hby d11_39) rfl (l' := #[.val (.ref ao), .val (.long jv), .second, .val (.int (8 : Int32)), .val (.int (7 : Int32))]) rfl k) ?_
  show Go _ _ _ _ _ _ _ T157 (mkF m 42 #[.val (.ref ao), .val (.long jv), .second, .val (.int (8 : Int32)), .val (.int (7 : Int32))] [])
  refine Go.step (fun _ k => XS.goto X157.here hx rfl (pc0 := 42) (pc' := 8) rfl (hb hby d11_42) (by decide) (by decide) k) ?_
  show Go _ _ _ _ _ _ _ T157 (mkF m 8 #[.val (.ref ao), .val (.long jv), .second, .val (.int (8 : Int32)), .val (.int (7 : Int32))] [])
  refine Go.step (fun _ k => XS.iload X157.here hx rfl (hb hby d11_8) rfl k) ?_
  show Go _ _ _ _ _ _ _ T157 (mkF m 10 #[.val (.ref ao), .val (.long jv), .second, .val (.int (8 : Int32)), .val (.int (7 : Int32))] [(.int (7 : Int32))])
  refine Go.step (fun _ k => XS.iloadN X157.here hx rfl (hb hby d11_10) rfl k) ?_
  show Go _ _ _ _ _ _ _ T157 (mkF m 11 #[.val (.ref ao), .val (.long jv), .second, .val (.int (8 : Int32)), .val (.int (7 : Int32))] [(.int (8 : Int32)), (.int (7 : Int32))])
  have hc11_158 : (7 : Int32) < (8 : Int32) := (by decide)
  refine Go.step (fun _ k => XS.icmpNo X157.here hx rfl (hb hby d11_11) rfl (tlt hc11_158).2.1 k) ?_
  show Go _ _ _ _ _ _ _ T157 (mkF m 14 #[.val (.ref ao), .val (.long jv), .second, .val (.int (8 : Int32)), .val (.int (7 : Int32))] [])
  refine Go.step (fun _ k => XS.aloadN X157.here hx rfl (hb hby d11_14) rfl rfl k) ?_
  show Go _ _ _ _ _ _ _ T157 (mkF m 15 #[.val (.ref ao), .val (.long jv), .second, .val (.int (8 : Int32)), .val (.int (7 : Int32))] [(.ref ao)])
  have f159 : Fld Z h157 ao "com/example/stitchwire/stitchwire/Output" "buffer" "[B" (.ref ab) := ((f150.other W155 (Or.inr (slot_ne (a0 := a0) (C := "com/example/stitchwire/stitchwire/Output") (Or.inl (hw _ (List.mem_of_getElem? (i := 11) rfl))) (Or.inl (hw _ (List.mem_of_getElem? (i := 22) rfl))) (by decide) (t := (.array .byte)) (t' := .int) (by decide) (by decide)))).other W157 (Or.inl ne0))
  obtain ⟨T160, X160, e160, st160⟩ := getF X157 hx hZ hown (host := "") (Or.inl (hw _ (List.mem_of_getElem? (i := 10) rfl))) Via.refl e157 f159 (g := (mkF m 15 #[.val (.ref ao), .val (.long jv), .second, .val (.int (8 : Int32)), .val (.int (7 : Int32))] [(.ref ao)])) rfl rfl (hb hby d11_15)
  refine Go.step st160 ?_
  show Go _ _ _ _ _ _ _ T160 (mkF m 18 #[.val (.ref ao), .val (.long jv), .second, .val (.int (8 : Int32)), .val (.int (7 : Int32))] [(.ref ab)])
  refine Go.step (fun _ k => XS.aloadN X160.here hx rfl (hb hby d11_18) rfl rfl k) ?_
  show Go _ _ _ _ _ _ _ T160 (mkF m 19 #[.val (.ref ao), .val (.long jv), .second, .val (.int (8 : Int32)), .val (.int (7 : Int32))] [(.ref ao), (.ref ab)])
  refine Go.step (fun _ k => XS.dup X160.here hx rfl (hb hby d11_19) rfl rfl k) ?_
  show Go _ _ _ _ _ _ _ T160 (mkF m 20 #[.val (.ref ao), .val (.long jv), .second, .val (.int (8 : Int32)), .val (.int (7 : Int32))] [(.ref ao), (.ref ao), (.ref ab)])
  have f161 : Fld Z h157 ao "com/example/stitchwire/stitchwire/Output" "size" "I" (.int (8 : Int32)) := (Fw155.other W157 (Or.inl ne0))
  obtain ⟨T162, X162, e162, st162⟩ := getF X160 hx hZ hown (host := "") (Or.inl (hw _ (List.mem_of_getElem? (i := 21) rfl))) Via.refl e160 f161 (g := (mkF m 20 #[.val (.ref ao), .val (.long jv), .second, .val (.int (8 : Int32)), .val (.int (7 : Int32))] [(.ref ao), (.ref ao), (.ref ab)])) rfl rfl (hb hby d11_20)
  refine Go.step st162 ?_
  show Go _ _ _ _ _ _ _ T162 (mkF m 23 #[.val (.ref ao), .val (.long jv), .second, .val (.int (8 : Int32)), .val (.int (7 : Int32))] [(.int (8 : Int32)), (.ref ao), (.ref ab)])
  refine Go.step (fun _ k => XS.dupX1 X162.here hx rfl (hb hby d11_23) rfl rfl rfl k) ?_
  show Go _ _ _ _ _ _ _ T162 (mkF m 24 #[.val (.ref ao), .val (.long jv), .second, .val (.int (8 : Int32)), .val (.int (7 : Int32))] [(.int (8 : Int32)), (.ref ao), (.int (8 : Int32)), (.ref ab)])
  refine Go.step (fun _ k => XS.iconst X162.here hx rfl (hb hby d11_24) k) ?_
  show Go _ _ _ _ _ _ _ T162 (mkF m 25 #[.val (.ref ao), .val (.long jv), .second, .val (.int (8 : Int32)), .val (.int (7 : Int32))] [(.int (1 : Int32)), (.int (8 : Int32)), (.ref ao), (.int (8 : Int32)), (.ref ab)])
  refine Go.step (fun _ k => XS.iadd X162.here hx rfl (hb hby d11_25) rfl k) ?_
  show Go _ _ _ _ _ _ _ T162 (mkF m 26 #[.val (.ref ao), .val (.long jv), .second, .val (.int (8 : Int32)), .val (.int (7 : Int32))] [(.int (9 : Int32)), (.ref ao), (.int (8 : Int32)), (.ref ab)])
  have f163 : Exa Z h157 ao "com/example/stitchwire/stitchwire/Output" := ((f154.wr W155).wr W157)
  obtain ⟨T164, h164, X164, e164, W164, st164⟩ := putF X162 hx hZ hown (host := "") (Or.inl (hw _ (List.mem_of_getElem? (i := 21) rfl))) Via.refl e162 f161 f163 (Or.inl (hw _ (List.mem_of_getElem? (i := 22) rfl))) (hw _ (List.mem_of_getElem? (i := 2) rfl)) (ty := .int) (by decide) rfl rfl (g := (mkF m 26 #[.val (.ref ao), .val (.long jv), .second, .val (.int (8 : Int32)), .val (.int (7 : Int32))] [(.int (9 : Int32)), (.ref ao), (.int (8 : Int32)), (.ref ab)])) rfl rfl (hb hby d11_26)
  refine Go.step st164 ?_
  have Fw164 := f161.same W164
  have N164 := Fr.snoc X164 N157 g0
  have Z164 : n0 ≤ h164.size := Nat.le_trans Z157 (Keep.of_wr W164).1
  have KK164 : Keep h0 h164 [ao, ab] := KK157.wr W164 (Or.inl (List.mem_of_getElem? (i := 0) rfl))
  show Go _ _ _ _ _ _ _ T164 (mkF m 29 #[.val (.ref ao), .val (.long jv), .second, .val (.int (8 : Int32)), .val (.int (7 : Int32))] [(.int (8 : Int32)), (.ref ab)])
  refine Go.step (fun _ k => XS.lloadN X164.here hx rfl (hb hby d11_29) rfl k) ?_
  show Go _ _ _ _ _ _ _ T164 (mkF m 30 #[.val (.ref ao), .val (.long jv), .second, .val (.int (8 : Int32)), .val (.int (7 : Int32))] [(.long jv), (.int (8 : Int32)), (.ref ab)])
  refine Go.step (fun _ k => XS.bipush X164.here hx rfl (hb hby d11_30) k) ?_
  show Go _ _ _ _ _ _ _ T164 (mkF m 32 #[.val (.ref ao), .val (.long jv), .second, .val (.int (8 : Int32)), .val (.int (7 : Int32))] [(.int (8 : Int32)), (.long jv), (.int (8 : Int32)), (.ref ab)])
  refine Go.step (fun _ k => XS.iload X164.here hx rfl (hb hby d11_32) rfl k) ?_
  show Go _ _ _ _ _ _ _ T164 (mkF m 34 #[.val (.ref ao), .val (.long jv), .second, .val (.int (8 : Int32)), .val (.int (7 : Int32))] [(.int (7 : Int32)), (.int (8 : Int32)), (.long jv), (.int (8 : Int32)), (.ref ab)])
  refine Go.step (fun _ k => XS.imul X164.here hx rfl (hb hby d11_34) rfl k) ?_
  show Go _ _ _ _ _ _ _ T164 (mkF m 35 #[.val (.ref ao), .val (.long jv), .second, .val (.int (8 : Int32)), .val (.int (7 : Int32))] [(.int (56 : Int32)), (.long jv), (.int (8 : Int32)), (.ref ab)])
  refine Go.step (fun _ k => XS.lushr X164.here hx rfl (hb hby d11_35) rfl k) ?_
  show Go _ _ _ _ _ _ _ T164 (mkF m 36 #[.val (.ref ao), .val (.long jv), .second, .val (.int (8 : Int32)), .val (.int (7 : Int32))] [(.long ((jv.toUInt64 >>> ((56 : Int32) &&& 0x3f).toInt64.toUInt64).toInt64)), (.int (8 : Int32)), (.ref ab)])
  refine Go.step (fun _ k => XS.l2i X164.here hx rfl (hb hby d11_36) rfl k) ?_
  show Go _ _ _ _ _ _ _ T164 (mkF m 37 #[.val (.ref ao), .val (.long jv), .second, .val (.int (8 : Int32)), .val (.int (7 : Int32))] [(.int (((jv.toUInt64 >>> ((56 : Int32) &&& 0x3f).toInt64.toUInt64).toInt64).toInt32)), (.int (8 : Int32)), (.ref ab)])
  refine Go.step (fun _ k => XS.i2b X164.here hx rfl (hb hby d11_37) rfl k) ?_
  show Go _ _ _ _ _ _ _ T164 (mkF m 38 #[.val (.ref ao), .val (.long jv), .second, .val (.int (8 : Int32)), .val (.int (7 : Int32))] [(.int ((((jv.toUInt64 >>> ((56 : Int32) &&& 0x3f).toInt64.toUInt64).toInt64).toInt32).toInt8.toInt32)), (.int (8 : Int32)), (.ref ab)])
  have f165 : Arv Z h164 ab kb .byte nN (((((((vs.set 1 (.int (nar .byte ((((jv.toUInt64 >>> ((0 : Int32) &&& 0x3f).toInt64.toUInt64).toInt64).toInt32).toInt8.toInt32)))).set 2 (.int (nar .byte ((((jv.toUInt64 >>> ((8 : Int32) &&& 0x3f).toInt64.toUInt64).toInt64).toInt32).toInt8.toInt32)))).set 3 (.int (nar .byte ((((jv.toUInt64 >>> ((16 : Int32) &&& 0x3f).toInt64.toUInt64).toInt64).toInt32).toInt8.toInt32)))).set 4 (.int (nar .byte ((((jv.toUInt64 >>> ((24 : Int32) &&& 0x3f).toInt64.toUInt64).toInt64).toInt32).toInt8.toInt32)))).set 5 (.int (nar .byte ((((jv.toUInt64 >>> ((32 : Int32) &&& 0x3f).toInt64.toUInt64).toInt64).toInt32).toInt8.toInt32)))).set 6 (.int (nar .byte ((((jv.toUInt64 >>> ((40 : Int32) &&& 0x3f).toInt64.toUInt64).toInt64).toInt32).toInt8.toInt32)))).set 7 (.int (nar .byte ((((jv.toUInt64 >>> ((48 : Int32) &&& 0x3f).toInt64.toUInt64).toInt64).toInt32).toInt8.toInt32)))) (.int (0 : Int32)) := (V157.other W164 (Ne.symm ne0))
  obtain ⟨cl166, Ar166, q166, S166, M166, H166, G166⟩ := id (f165)
  have hin166 : ¬ ((8 : Int32) < 0 ∨ cl166.slots.size ≤ ((8 : Int32)).toNatClampNeg) := inb_of S166 ⟨by decide, (by have : (8 : Int32).toInt = 8 := rfl; have : (64 : Int32).toInt = 64 := rfl; simp only [Int32.lt_iff_toInt_lt, Int32.le_iff_toInt_le, ← Int32.toInt_inj, Int64.lt_iff_toInt_lt, Int64.le_iff_toInt_le, ← Int64.toInt_inj] at h64 ⊢; omega)⟩
  obtain ⟨T166, h166, X166, e166, W166, st166⟩ := stB X164 hx hZ e164 Ar166 (j := (8 : Int32)) hin166 (g := (mkF m 38 #[.val (.ref ao), .val (.long jv), .second, .val (.int (8 : Int32)), .val (.int (7 : Int32))] [(.int ((((jv.toUInt64 >>> ((56 : Int32) &&& 0x3f).toInt64.toUInt64).toInt64).toInt32).toInt8.toInt32)), (.int (8 : Int32)), (.ref ab)])) rfl rfl (hb hby d11_38)
  refine Go.step st166 ?_
  have V166 : Arv Z h166 ab kb .byte nN ((((((((vs.set 1 (.int (nar .byte ((((jv.toUInt64 >>> ((0 : Int32) &&& 0x3f).toInt64.toUInt64).toInt64).toInt32).toInt8.toInt32)))).set 2 (.int (nar .byte ((((jv.toUInt64 >>> ((8 : Int32) &&& 0x3f).toInt64.toUInt64).toInt64).toInt32).toInt8.toInt32)))).set 3 (.int (nar .byte ((((jv.toUInt64 >>> ((16 : Int32) &&& 0x3f).toInt64.toUInt64).toInt64).toInt32).toInt8.toInt32)))).set 4 (.int (nar .byte ((((jv.toUInt64 >>> ((24 : Int32) &&& 0x3f).toInt64.toUInt64).toInt64).toInt32).toInt8.toInt32)))).set 5 (.int (nar .byte ((((jv.toUInt64 >>> ((32 : Int32) &&& 0x3f).toInt64.toUInt64).toInt64).toInt32).toInt8.toInt32)))).set 6 (.int (nar .byte ((((jv.toUInt64 >>> ((40 : Int32) &&& 0x3f).toInt64.toUInt64).toInt64).toInt32).toInt8.toInt32)))).set 7 (.int (nar .byte ((((jv.toUInt64 >>> ((48 : Int32) &&& 0x3f).toInt64.toUInt64).toInt64).toInt32).toInt8.toInt32)))).set 8 (.int (nar .byte ((((jv.toUInt64 >>> ((56 : Int32) &&& 0x3f).toInt64.toUInt64).toInt64).toInt32).toInt8.toInt32)))) (.int (0 : Int32)) := Arv.set Ar166 q166 S166 M166 H166 G166 (fits_nar_byte _) W166 8 rfl (by (try simp only [List.length_set]); exact Nat.lt_of_lt_of_le (by decide) (own_64 h64 hlen))
  have N166 := Fr.snoc X166 N164 g1
  have Z166 : n0 ≤ h166.size := Nat.le_trans Z164 (Keep.of_wr W166).1
  have KK166 : Keep h0 h166 [ao, ab] := KK164.wr W166 (Or.inl (List.mem_of_getElem? (i := 1) rfl))
  show Go _ _ _ _ _ _ _ T166 (mkF m 39 #[.val (.ref ao), .val (.long jv), .second, .val (.int (8 : Int32)), .val (.int (7 : Int32))] [])
  refine Go.step (fun _ k => XS.iinc X166.here hx rfl (hb hby d11_39) rfl (l' := #[.val (.ref ao), .val (.long jv), .second, .val (.int (8 : Int32)), .val (.int (8 : Int32))]) rfl k) ?_
  show Go _ _ _ _ _ _ _ T166 (mkF m 42 #[.val (.ref ao), .val (.long jv), .second, .val (.int (8 : Int32)), .val (.int (8 : Int32))] [])
  refine Go.step (fun _ k => XS.goto X166.here hx rfl (pc0 := 42) (pc' := 8) rfl (hb hby d11_42) (by decide) (by decide) k) ?_
  show Go _ _ _ _ _ _ _ T166 (mkF m 8 #[.val (.ref ao), .val (.long jv), .second, .val (.int (8 : Int32)), .val (.int (8 : Int32))] [])
  refine Go.step (fun _ k => XS.iload X166.here hx rfl (hb hby d11_8) rfl k) ?_
  show Go _ _ _ _ _ _ _ T166 (mkF m 10 #[.val (.ref ao), .val (.long jv), .second, .val (.int (8 : Int32)), .val (.int (8 : Int32))] [(.int (8 : Int32))])
  refine Go.step (fun _ k => XS.iloadN X166.here hx rfl (hb hby d11_10) rfl k) ?_
  show Go _ _ _ _ _ _ _ T166 (mkF m 11 #[.val (.ref ao), .val (.long jv), .second, .val (.int (8 : Int32)), .val (.int (8 : Int32))] [(.int (8 : Int32)), (.int (8 : Int32))])
  have hc11_167 : ¬ ((8 : Int32) < (8 : Int32)) := (by decide)
  refine Go.step (fun _ k => XS.icmpYes X166.here hx rfl (pc0 := 11) (pc' := 45) rfl (hb hby d11_11) rfl (flt hc11_167).2.1 (by decide) (by decide) k) ?_
  show Go _ _ _ _ _ _ _ T166 (mkF m 45 #[.val (.ref ao), .val (.long jv), .second, .val (.int (8 : Int32)), .val (.int (8 : Int32))] [])
  have f168 : Exa Z h166 ao "com/example/stitchwire/stitchwire/Output" := ((f163.wr W164).wr W166)
  have f169 : Fld Z h166 ao "com/example/stitchwire/stitchwire/Output" "buffer" "[B" (.ref ab) := ((f159.other W164 (Or.inr (slot_ne (a0 := a0) (C := "com/example/stitchwire/stitchwire/Output") (Or.inl (hw _ (List.mem_of_getElem? (i := 11) rfl))) (Or.inl (hw _ (List.mem_of_getElem? (i := 22) rfl))) (by decide) (t := (.array .byte)) (t' := .int) (by decide) (by decide)))).other W166 (Or.inl ne0))
  have f170 : Fld Z h166 ao "com/example/stitchwire/stitchwire/Output" "size" "I" (.int (9 : Int32)) := (Fw164.other W166 (Or.inl ne0))
  exact Go.ret0 X166 hx hret hlk (hb hby d11_45) e166 (by decide) (by decide) ⟨rfl, N166, KK166, f168, f169, f170, V166⟩
theorem d10_0 : decode prog_38_method_20_code 0 = .ok (.aload_n 0, 1) := by decide +kernel
theorem d10_1 : decode prog_38_method_20_code 1 = .ok (.lload_n 1, 1) := by decide +kernel
theorem d10_2 : decode prog_38_method_20_code 2 = .ok (.bipush 8, 2) := by decide +kernel
theorem d10_4 : decode prog_38_method_20_code 4 = .ok (.invokevirtual 115, 3) := by decide +kernel
theorem d10_7 : decode prog_38_method_20_code 7 = .ok (.return_, 1) := by decide +kernel
theorem pd__JI_V : parseMethodDescriptor "(JI)V" = some ⟨[.long, .int], none⟩ := by decide +kernel
theorem ef_rmF8 (m : MethodId) (ao : Addr) (jv : Int64) : entryFrame m #[(.ref ao), (.long jv)] 3 = mkF m 0 #[.val (.ref ao), .val (.long jv), .second] [] := by first | (simp [entryFrame, mkF, argsToLocals, Value.category]; done) | rfl
def Q_rmF8 (Z : State) (ao : Addr) (jv : Int64) (ab : Addr) (kb : ClassId) (nN : Int32) (vs : List Value) (h0 : Heap) (n0 : Nat) (v : Option Value) (h : Heap) (L : List Loc) : Prop := (v = none) ∧ (Fr n0 L) ∧ (Keep h0 h [ao, ab]) ∧ (Exa Z h ao "com/example/stitchwire/stitchwire/Output") ∧ (Fld Z h ao "com/example/stitchwire/stitchwire/Output" "buffer" "[B" (.ref ab)) ∧ (Fld Z h ao "com/example/stitchwire/stitchwire/Output" "size" "I" (.int (9 : Int32))) ∧ (Arv Z h ab kb .byte nN ((((((((vs.set 1 (.int (nar .byte ((((jv.toUInt64 >>> ((0 : Int32) &&& 0x3f).toInt64.toUInt64).toInt64).toInt32).toInt8.toInt32)))).set 2 (.int (nar .byte ((((jv.toUInt64 >>> ((8 : Int32) &&& 0x3f).toInt64.toUInt64).toInt64).toInt32).toInt8.toInt32)))).set 3 (.int (nar .byte ((((jv.toUInt64 >>> ((16 : Int32) &&& 0x3f).toInt64.toUInt64).toInt64).toInt32).toInt8.toInt32)))).set 4 (.int (nar .byte ((((jv.toUInt64 >>> ((24 : Int32) &&& 0x3f).toInt64.toUInt64).toInt64).toInt32).toInt8.toInt32)))).set 5 (.int (nar .byte ((((jv.toUInt64 >>> ((32 : Int32) &&& 0x3f).toInt64.toUInt64).toInt64).toInt32).toInt8.toInt32)))).set 6 (.int (nar .byte ((((jv.toUInt64 >>> ((40 : Int32) &&& 0x3f).toInt64.toUInt64).toInt64).toInt32).toInt8.toInt32)))).set 7 (.int (nar .byte ((((jv.toUInt64 >>> ((48 : Int32) &&& 0x3f).toInt64.toUInt64).toInt64).toInt32).toInt8.toInt32)))).set 8 (.int (nar .byte ((((jv.toUInt64 >>> ((56 : Int32) &&& 0x3f).toInt64.toUInt64).toInt64).toInt32).toInt8.toInt32)))) (.int (0 : Int32)))
set_option maxRecDepth 65536 in
set_option maxHeartbeats 40000000 in
theorem rmF8 (l : Launch) (Z : State) (a0 : Array Value) (hw : ∀ d ∈ tables_1, d.before a0 Z = true) (ws : List Jvm.Cond) (ao : Addr) (jv : Int64) (ab : Addr) (kb : ClassId) (nN : Int32) (vs : List Value) (h0 : Heap) (n0 : Nat) (Z0 : n0 ≤ h0.size) (E0 : Exa Z h0 ao "com/example/stitchwire/stitchwire/Output") (Fb : Fld Z h0 ao "com/example/stitchwire/stitchwire/Output" "buffer" "[B" (.ref ab)) (Fs : Fld Z h0 ao "com/example/stitchwire/stitchwire/Output" "size" "I" (.int (1 : Int32))) (V0 : Arv Z h0 ab kb .byte nN vs (.int (0 : Int32))) (g0 : n0 ≤ ao) (g1 : n0 ≤ ab) (ne0 : ao ≠ ab) (hlen : vs.length = nN.toNatClampNeg) (h64 : ¬ (nN < (64 : Int32))) (hn : ¬ ((nN - (1 : Int32)) < (8 : Int32))) :
    MetFree l (⟨"com/example/stitchwire/stitchwire/Output", "writeFixed64", "(J)V"⟩ : MethodName) (head1 (Jvm.Cond.code (⟨"com/example/stitchwire/stitchwire/Output", "writeFixed64", "(J)V"⟩ : MethodName) prog_38_method_20_code 3 none :: ws) ({ frames := 2, cells := 0, slots := 0, locals := 29 } : Room)) (fun aA U => aA = #[(.ref ao), (.long jv)] ∧ Z.Warmed39 U.vm ∧ U.heap = h0) (fun _ _ _ _ _ => True) (fun _ U o U' => ∃ v L, o = .returned v ∧ Q_rmF8 Z ao jv ab kb nN vs h0 n0 v U'.heap L ∧ FrameEnd U o U' L ({ frames := 2, cells := 0, slots := 0, locals := 29 } : Room).cells ({ frames := 2, cells := 0, slots := 0, locals := 29 } : Room).slots) := by
  refine MetFree.of_bodySF (plainFor_of_name pn_com_example_stitchwire_stitchwire_Output) hisR ?_
  intro p e s m args below meth c s₁ Bd hml0 hP hK
  obtain ⟨rfl, hZ, hh⟩ := hP
  have hx := Bd.exec
  have hby := Bd.bytes
  have hml : c.maxLocals = 3 := hml0
  have hown : s.vm.findClass "com/example/stitchwire/stitchwire/Output" = some m.cls := findClass_of_methodNamed Bd.named
  have hnm := (name_of_methodNamed Bd.named Bd.method).1
  have hret := Bd.returns
  have hlk : meth.locks = false := BodyLoose.notSynchronized Bd
  have X0 : Stand p l e ({ frames := 2, cells := 0, slots := 0, locals := 29 } : Room) s m #[(.ref ao), (.long jv)] below meth c s₁ [] 0 0 := Stand.of_body Bd
  have e0 : s₁.heap = h0 := by rw [← hh, Bd.state]; rfl
  have N0 := Fr.nil n0
  suffices hgo : Go p e below s ({ frames := 2, cells := 0, slots := 0, locals := 29 } : Room).cells ({ frames := 2, cells := 0, slots := 0, locals := 29 } : Room).slots (Q_rmF8 Z ao jv ab kb nN vs h0 n0) s₁ (mkF m 0 #[.val (.ref ao), .val (.long jv), .second] []) from hgo.enter (ef_rmF8 m ao jv)
  refine Go.step (fun _ k => XS.aloadN X0.here hx rfl (hb hby d10_0) rfl rfl k) ?_
  show Go _ _ _ _ _ _ _ s₁ (mkF m 1 #[.val (.ref ao), .val (.long jv), .second] [(.ref ao)])
  refine Go.step (fun _ k => XS.lloadN X0.here hx rfl (hb hby d10_1) rfl k) ?_
  show Go _ _ _ _ _ _ _ s₁ (mkF m 2 #[.val (.ref ao), .val (.long jv), .second] [(.long jv), (.ref ao)])
  refine Go.step (fun _ k => XS.bipush X0.here hx rfl (hb hby d10_2) k) ?_
  show Go _ _ _ _ _ _ _ s₁ (mkF m 4 #[.val (.ref ao), .val (.long jv), .second] [(.int (8 : Int32)), (.long jv), (.ref ao)])
  obtain ⟨cq171, q171, q171'⟩ := E0.cell
  obtain ⟨_, _, ⟨T171, L171, k171, n171⟩, -, X171, ⟨Lc171, hQ171, l171, y171, z171⟩, st171⟩ := X0.privateBack hx (y := (⟨"com/example/stitchwire/stitchwire/Output", "writeLittleEndian", "(JI)V"⟩ : MethodName)) hown (mvT hZ (hw _ (List.mem_of_getElem? (i := 55) rfl))) (mvT hZ (hw _ (List.mem_of_getElem? (i := 56) rfl))) (own_selp (mvT hZ (hw _ (List.mem_of_getElem? (i := 2) rfl))) (Cond.privateMethod_at (mvP hZ (hw _ (List.mem_of_getElem? (i := 57) rfl)) (args := #[]))) (mvT hZ (hw _ (List.mem_of_getElem? (i := 56) rfl))) (by decide)) (Cond.privateMethod_at (mvP hZ (hw _ (List.mem_of_getElem? (i := 57) rfl)) (args := #[]))) (mvT hZ (hw _ (List.mem_of_getElem? (i := 58) rfl))) (by decide) (backOf (W := 0) (rmLe l Z a0 hw [] ao jv ab kb nN vs h0 n0 Z0 E0 Fb Fs V0 g0 g1 ne0 hlen h64 hn) hZ (hw _ (List.mem_of_getElem? (i := 58) rfl)) (hw _ (List.mem_of_getElem? (i := 3) rfl)) (by decide) (by decide)) (g := (mkF m 4 #[.val (.ref ao), .val (.long jv), .second] [(.int (8 : Int32)), (.long jv), (.ref ao)])) rfl (by rw [hml]; rfl) (Steps.refl _) (a := ao) (by rw [e0]; exact q171) q171' (argsL := [(.long jv), (.int (8 : Int32))]) (rest := []) (lenOf pd__JI_V rfl) rfl (by show 2 * 0 + _ ≤ _; exact Nat.le_of_eq rfl) (hb hby d10_4) (fun _ _ => ⟨rfl, e0, (by decide : 0 + 0 ≤ _), (by decide : 0 + 0 ≤ _)⟩)
  dsimp only [Pt.U, Pt.locs, Pt.cells, Pt.slots] at X171 l171 y171 z171 st171 hQ171
  subst l171 y171 z171
  obtain ⟨h171, e171⟩ : ∃ h, T171.heap = h := ⟨_, rfl⟩
  rw [e171] at hQ171
  obtain ⟨rfl, Nq171, Kq171, E1_171, Fb1_171, Fs1_171, V1_171⟩ := hQ171
  have N171 := Fr.app N0 Nq171
  have Z171 : n0 ≤ h171.size := Nat.le_trans Z0 Kq171.1
  have KK171 : Keep h0 h171 [ao, ab] := (Keep.refl h0 [ao, ab]).trans Kq171 (allS (Or.inl (List.mem_of_getElem? (i := 0) rfl)) (allS (Or.inl (List.mem_of_getElem? (i := 1) rfl)) all0))
  refine Go.trans st171 ?_
  show Go _ _ _ _ _ _ _ T171 (mkF m 7 #[.val (.ref ao), .val (.long jv), .second] [])
  exact Go.ret0 X171 hx hret hlk (hb hby d10_7) e171 (by decide) (by decide) ⟨rfl, N171, KK171, E1_171, Fb1_171, Fs1_171, V1_171⟩
theorem own_sh0 (j : Int64) : ((j.toUInt64 >>> ((0 : Int32) &&& 0x3f).toInt64.toUInt64).toInt64) = j := by
  have e : ((0 : Int32) &&& 0x3f).toInt64.toUInt64 = 0 := by decide
  rw [e]; simp
theorem pd___B_V : parseMethodDescriptor "([B)V" = some ⟨[(.array .byte)], none⟩ := by decide +kernel
theorem pd___I : parseMethodDescriptor "()I" = some ⟨[], some .int⟩ := by decide +kernel
theorem pd____B : parseMethodDescriptor "()[B" = some ⟨[], some (.array .byte)⟩ := by decide +kernel
theorem pd__J_V : parseMethodDescriptor "(J)V" = some ⟨[.long], none⟩ := by decide +kernel
theorem pn_com_example_stitchwire_stitchwire_OutputClearPinLaw : plainName "com/example/stitchwire/stitchwire/OutputClearPinLaw" = true := by first | (simp [plainName, overriddenIn]; done) | decide +kernel
theorem ef_rm0 (m : MethodId) (ik : Int32) (if_ : Int32) (ix : Int32) (jv : Int64) (ig : Int32) : entryFrame m #[(.int ik), (.int if_), (.int ix), (.long jv), (.int ig)] maxLocals = mkF m 0 #[.val (.int ik), .val (.int if_), .val (.int ix), .val (.long jv), .second, .val (.int ig), .unset, .unset, .unset] [] := by first | (simp [entryFrame, mkF, argsToLocals, Value.category, maxLocals]; done) | rfl
def Q_rm0 (Z : State) (ik : Int32) (if_ : Int32) (ix : Int32) (jv : Int64) (ig : Int32) (h0 : Heap) (n0 : Nat) (v : Option Value) (h : Heap) (L : List Loc) : Prop := (v = some (.int (1 : Int32))) ∧ (Fr n0 L) ∧ (True)
set_option maxRecDepth 65536 in
set_option maxHeartbeats 40000000 in
theorem rm0 (l : Launch) (Z : State) (a0 : Array Value) (hw : ∀ d ∈ tables_1, d.before a0 Z = true) (ws : List Jvm.Cond) (ik : Int32) (if_ : Int32) (ix : Int32) (jv : Int64) (ig : Int32) (h0 : Heap) (n0 : Nat) (Z0 : n0 ≤ h0.size) :
    MetFree l x (head1 (Jvm.Cond.code x code maxLocals ret :: ws) room_1) (fun aA U => aA = #[(.int ik), (.int if_), (.int ix), (.long jv), (.int ig)] ∧ Z.Warmed39 U.vm ∧ U.heap = h0) (fun _ _ _ _ _ => True) (fun _ U o U' => ∃ v L, o = .returned v ∧ Q_rm0 Z ik if_ ix jv ig h0 n0 v U'.heap L ∧ FrameEnd U o U' L room_1.cells room_1.slots) := by
  refine MetFree.of_bodySF (plainFor_of_name pn_com_example_stitchwire_stitchwire_OutputClearPinLaw) hisR ?_
  intro p e s m args below meth c s₁ Bd hml0 hP hK
  obtain ⟨rfl, hZ, hh⟩ := hP
  have hx := Bd.exec
  have hby := Bd.bytes
  have hml : c.maxLocals = 9 := hml0
  have hown : s.vm.findClass "com/example/stitchwire/stitchwire/OutputClearPinLaw" = some m.cls := findClass_of_methodNamed Bd.named
  have hnm := (name_of_methodNamed Bd.named Bd.method).1
  have hret := Bd.returns
  have hlk : meth.locks = false := BodyLoose.notSynchronized Bd
  have X0 : Stand p l e room_1 s m #[(.int ik), (.int if_), (.int ix), (.long jv), (.int ig)] below meth c s₁ [] 0 0 := Stand.of_body Bd
  have e0 : s₁.heap = h0 := by rw [← hh, Bd.state]; rfl
  have N0 := Fr.nil n0
  suffices hgo : Go p e below s room_1.cells room_1.slots (Q_rm0 Z ik if_ ix jv ig h0 n0) s₁ (mkF m 0 #[.val (.int ik), .val (.int if_), .val (.int ix), .val (.long jv), .second, .val (.int ig), .unset, .unset, .unset] []) from hgo.enter (ef_rm0 m ik if_ ix jv ig)
  refine Go.step (fun _ k => XS.bipush X0.here hx rfl (hb hby at_0) k) ?_
  show Go _ _ _ _ _ _ _ s₁ (mkF m 2 #[.val (.int ik), .val (.int if_), .val (.int ix), .val (.long jv), .second, .val (.int ig), .unset, .unset, .unset] [(.int (100 : Int32))])
  obtain ⟨T172, h172, k172, X172, e172, E172, A172, st172⟩ := newP X0 hx hZ (hw _ (List.mem_of_getElem? (i := 0) rfl)) e0 (g := (mkF m 2 #[.val (.int ik), .val (.int if_), .val (.int ix), .val (.long jv), .second, .val (.int ig), .unset, .unset, .unset] [(.int (100 : Int32))])) rfl (hb hby at_2) rfl (by decide) (cap := 100) (by decide) (by decide) (by decide) (by decide)
  obtain ⟨b172, g172⟩ : ∃ z, z = h0.size := ⟨_, rfl⟩
  rw [← g172] at A172 st172
  refine Go.step st172 ?_
  have g_b172 : n0 ≤ b172 := Nat.le_trans Z0 (Nat.le_of_eq g172.symm)
  have Z172 : n0 ≤ h172.size := Nat.le_trans Z0 E172.1
  have V172 : Arv Z h172 b172 k172 .byte (100 : Int32) [] (.int (0 : Int32)) := Arv.new A172 (by decide)
  have V173 : Arv Z h172 b172 k172 .byte (100 : Int32) (List.replicate 100 (.int (0 : Int32))) (.int (0 : Int32)) := (V172).pad (pad_rep [] (.int (0 : Int32)) 100)
  show Go _ _ _ _ _ _ _ T172 (mkF m 4 #[.val (.int ik), .val (.int if_), .val (.int ix), .val (.long jv), .second, .val (.int ig), .unset, .unset, .unset] [(.ref b172)])
  refine Go.step (fun _ k => XS.astore X172.here hx rfl (hb hby at_4) rfl rfl (l' := #[.val (.int ik), .val (.int if_), .val (.int ix), .val (.long jv), .second, .val (.int ig), .val (.ref b172), .unset, .unset]) rfl k) ?_
  show Go _ _ _ _ _ _ _ T172 (mkF m 6 #[.val (.int ik), .val (.int if_), .val (.int ix), .val (.long jv), .second, .val (.int ig), .val (.ref b172), .unset, .unset] [])
  refine Go.step (fun _ k => XS.aload X172.here hx rfl (hb hby at_6) rfl rfl k) ?_
  show Go _ _ _ _ _ _ _ T172 (mkF m 8 #[.val (.int ik), .val (.int if_), .val (.int ix), .val (.long jv), .second, .val (.int ig), .val (.ref b172), .unset, .unset] [(.ref b172)])
  refine Go.step (fun _ k => XS.iconst X172.here hx rfl (hb hby at_8) k) ?_
  show Go _ _ _ _ _ _ _ T172 (mkF m 9 #[.val (.int ik), .val (.int if_), .val (.int ix), .val (.long jv), .second, .val (.int ig), .val (.ref b172), .unset, .unset] [(.int (0 : Int32)), (.ref b172)])
  refine Go.step (fun _ k => XS.iloadN X172.here hx rfl (hb hby at_9) rfl k) ?_
  show Go _ _ _ _ _ _ _ T172 (mkF m 10 #[.val (.int ik), .val (.int if_), .val (.int ix), .val (.long jv), .second, .val (.int ig), .val (.ref b172), .unset, .unset] [(.int if_), (.int (0 : Int32)), (.ref b172)])
  refine Go.step (fun _ k => XS.i2b X172.here hx rfl (hb hby at_10) rfl k) ?_
  show Go _ _ _ _ _ _ _ T172 (mkF m 11 #[.val (.int ik), .val (.int if_), .val (.int ix), .val (.long jv), .second, .val (.int ig), .val (.ref b172), .unset, .unset] [(.int (if_.toInt8.toInt32)), (.int (0 : Int32)), (.ref b172)])
  obtain ⟨cl174, Ar174, q174, S174, M174, H174, G174⟩ := id (V173)
  have hin174 : ¬ ((0 : Int32) < 0 ∨ cl174.slots.size ≤ ((0 : Int32)).toNatClampNeg) := inb_of S174 ⟨by decide, by decide⟩
  obtain ⟨T174, h174, X174, e174, W174, st174⟩ := stB X172 hx hZ e172 Ar174 (j := (0 : Int32)) hin174 (g := (mkF m 11 #[.val (.int ik), .val (.int if_), .val (.int ix), .val (.long jv), .second, .val (.int ig), .val (.ref b172), .unset, .unset] [(.int (if_.toInt8.toInt32)), (.int (0 : Int32)), (.ref b172)])) rfl rfl (hb hby at_11)
  refine Go.step st174 ?_
  have V174 : Arv Z h174 b172 k172 .byte (100 : Int32) ((List.replicate 100 (.int (0 : Int32))).set 0 (.int (nar .byte (if_.toInt8.toInt32)))) (.int (0 : Int32)) := Arv.set Ar174 q174 S174 M174 H174 G174 (fits_nar_byte _) W174 0 rfl (by simp [List.length_set])
  have N174 := Fr.snoc X174 N0 g_b172
  have Z174 : n0 ≤ h174.size := Nat.le_trans Z172 (Keep.of_wr W174).1
  show Go _ _ _ _ _ _ _ T174 (mkF m 12 #[.val (.int ik), .val (.int if_), .val (.int ix), .val (.long jv), .second, .val (.int ig), .val (.ref b172), .unset, .unset] [])
  refine Go.step (fun _ k => XS.aload X174.here hx rfl (hb hby at_12) rfl rfl k) ?_
  show Go _ _ _ _ _ _ _ T174 (mkF m 14 #[.val (.int ik), .val (.int if_), .val (.int ix), .val (.long jv), .second, .val (.int ig), .val (.ref b172), .unset, .unset] [(.ref b172)])
  refine Go.step (fun _ k => XS.bipush X174.here hx rfl (hb hby at_14) k) ?_
  show Go _ _ _ _ _ _ _ T174 (mkF m 16 #[.val (.int ik), .val (.int if_), .val (.int ix), .val (.long jv), .second, .val (.int ig), .val (.ref b172), .unset, .unset] [(.int (99 : Int32)), (.ref b172)])
  refine Go.step (fun _ k => XS.iloadN X174.here hx rfl (hb hby at_16) rfl k) ?_
  show Go _ _ _ _ _ _ _ T174 (mkF m 17 #[.val (.int ik), .val (.int if_), .val (.int ix), .val (.long jv), .second, .val (.int ig), .val (.ref b172), .unset, .unset] [(.int ix), (.int (99 : Int32)), (.ref b172)])
  refine Go.step (fun _ k => XS.i2b X174.here hx rfl (hb hby at_17) rfl k) ?_
  show Go _ _ _ _ _ _ _ T174 (mkF m 18 #[.val (.int ik), .val (.int if_), .val (.int ix), .val (.long jv), .second, .val (.int ig), .val (.ref b172), .unset, .unset] [(.int (ix.toInt8.toInt32)), (.int (99 : Int32)), (.ref b172)])
  obtain ⟨cl175, Ar175, q175, S175, M175, H175, G175⟩ := id (V174)
  have hin175 : ¬ ((99 : Int32) < 0 ∨ cl175.slots.size ≤ ((99 : Int32)).toNatClampNeg) := inb_of S175 ⟨by decide, by decide⟩
  obtain ⟨T175, h175, X175, e175, W175, st175⟩ := stB X174 hx hZ e174 Ar175 (j := (99 : Int32)) hin175 (g := (mkF m 18 #[.val (.int ik), .val (.int if_), .val (.int ix), .val (.long jv), .second, .val (.int ig), .val (.ref b172), .unset, .unset] [(.int (ix.toInt8.toInt32)), (.int (99 : Int32)), (.ref b172)])) rfl rfl (hb hby at_18)
  refine Go.step st175 ?_
  have V175 : Arv Z h175 b172 k172 .byte (100 : Int32) (((List.replicate 100 (.int (0 : Int32))).set 0 (.int (nar .byte (if_.toInt8.toInt32)))).set 99 (.int (nar .byte (ix.toInt8.toInt32)))) (.int (0 : Int32)) := Arv.set Ar175 q175 S175 M175 H175 G175 (fits_nar_byte _) W175 99 rfl (by simp [List.length_set])
  have N175 := Fr.snoc X175 N174 g_b172
  have Z175 : n0 ≤ h175.size := Nat.le_trans Z174 (Keep.of_wr W175).1
  show Go _ _ _ _ _ _ _ T175 (mkF m 19 #[.val (.int ik), .val (.int if_), .val (.int ix), .val (.long jv), .second, .val (.int ig), .val (.ref b172), .unset, .unset] [])
  obtain ⟨T176, h176, X176, e176, E176, A176, D176, -, st176⟩ := newO X175 hx hZ hown (hw _ (List.mem_of_getElem? (i := 1) rfl)) (hw _ (List.mem_of_getElem? (i := 2) rfl)) (hw _ (List.mem_of_getElem? (i := 3) rfl)) e175 (g := (mkF m 19 #[.val (.int ik), .val (.int if_), .val (.int ix), .val (.long jv), .second, .val (.int ig), .val (.ref b172), .unset, .unset] [])) rfl (hb hby at_19) (by decide) (by decide)
  obtain ⟨b176, g176⟩ : ∃ z, z = h175.size := ⟨_, rfl⟩
  rw [← g176] at A176 D176 st176
  refine Go.step st176 ?_
  have g_b176 : n0 ≤ b176 := Nat.le_trans Z175 (Nat.le_of_eq g176.symm)
  have ne_b172_b176 : b172 ≠ b176 := Nat.ne_of_lt (Nat.lt_of_lt_of_le V175.lt (Nat.le_of_eq g176.symm))
  have Z176 : n0 ≤ h176.size := Nat.le_trans Z175 E176.1
  have Fbuffer_176 : Fld Z h176 b176 "com/example/stitchwire/stitchwire/Output" "buffer" "[B" .null := D176 (Or.inl (hw _ (List.mem_of_getElem? (i := 11) rfl))) (ty := (.array .byte)) (by decide)
  have Fsize_176 : Fld Z h176 b176 "com/example/stitchwire/stitchwire/Output" "size" "I" (.int (0 : Int32)) := D176 (Or.inl (hw _ (List.mem_of_getElem? (i := 22) rfl))) (ty := .int) (by decide)
  show Go _ _ _ _ _ _ _ T176 (mkF m 22 #[.val (.int ik), .val (.int if_), .val (.int ix), .val (.long jv), .second, .val (.int ig), .val (.ref b172), .unset, .unset] [(.ref b176)])
  refine Go.step (fun _ k => XS.dup X176.here hx rfl (hb hby at_22) rfl rfl k) ?_
  show Go _ _ _ _ _ _ _ T176 (mkF m 23 #[.val (.int ik), .val (.int if_), .val (.int ix), .val (.long jv), .second, .val (.int ig), .val (.ref b172), .unset, .unset] [(.ref b176), (.ref b176)])
  obtain ⟨_, _, ⟨T177, L177, k177, n177⟩, -, X177, ⟨Lc177, hQ177, l177, y177, z177⟩, st177⟩ := X176.specialBack hx (y := (⟨"com/example/stitchwire/stitchwire/Output", "<init>", "()V"⟩ : MethodName)) rfl hown (mvT hZ (hw _ (List.mem_of_getElem? (i := 4) rfl))) (mvT hZ (hw _ (List.mem_of_getElem? (i := 5) rfl))) (mvT hZ (hw _ (List.mem_of_getElem? (i := 6) rfl))) (by decide) (backOf (W := 1) (rmIn l Z a0 hw [] b176 h176 n0 Z176 A176 Fbuffer_176 Fsize_176 g_b176) hZ (hw _ (List.mem_of_getElem? (i := 6) rfl)) (hw _ (List.mem_of_getElem? (i := 3) rfl)) (by decide) (by decide)) (g := (mkF m 23 #[.val (.int ik), .val (.int if_), .val (.int ix), .val (.long jv), .second, .val (.int ig), .val (.ref b172), .unset, .unset] [(.ref b176), (.ref b176)])) rfl (by rw [hml]; rfl) (Steps.refl _) (a := b176) (argsL := []) (rest := [(.ref b176)]) (lenOf pd___V rfl) rfl (by show 2 * 0 + _ ≤ _; exact Nat.le_of_eq rfl) (hb hby at_23) (fun _ _ => ⟨rfl, e176, (by decide : 2 + 1 ≤ _), (by decide : 102 + 64 ≤ _)⟩)
  dsimp only [Pt.U, Pt.locs, Pt.cells, Pt.slots] at X177 l177 y177 z177 st177 hQ177
  subst l177 y177 z177
  obtain ⟨h177, e177⟩ : ∃ h, T177.heap = h := ⟨_, rfl⟩
  rw [e177] at hQ177
  have f178 : Arv Z h176 b172 k172 .byte (100 : Int32) (((List.replicate 100 (.int (0 : Int32))).set 0 (.int (nar .byte (if_.toInt8.toInt32)))).set 99 (.int (nar .byte (ix.toInt8.toInt32)))) (.int (0 : Int32)) := (V175.ext E176)
  obtain ⟨ab_177, kb_177, rfl, Nq177, Kq177, sz__177, E1_177, Fb1_177, Fs1_177, V1_177⟩ := hQ177
  have N177 := Fr.app N175 Nq177
  have Z177 : n0 ≤ h177.size := Nat.le_trans Z176 Kq177.1
  have g_ab_177 : n0 ≤ ab_177 := Nat.le_trans Z176 sz__177
  have ne_b172_ab_177 : b172 ≠ ab_177 := Nat.ne_of_lt (Nat.lt_of_lt_of_le f178.lt sz__177)
  have ne_b176_ab_177 : b176 ≠ ab_177 := Nat.ne_of_lt (Nat.lt_of_lt_of_le A176.lt sz__177)
  refine Go.trans st177 ?_
  show Go _ _ _ _ _ _ _ T177 (mkF m 26 #[.val (.int ik), .val (.int if_), .val (.int ix), .val (.long jv), .second, .val (.int ig), .val (.ref b172), .unset, .unset] [(.ref b176)])
  refine Go.step (fun _ k => XS.astore X177.here hx rfl (hb hby at_26) rfl rfl (l' := #[.val (.int ik), .val (.int if_), .val (.int ix), .val (.long jv), .second, .val (.int ig), .val (.ref b172), .val (.ref b176), .unset]) rfl k) ?_
  show Go _ _ _ _ _ _ _ T177 (mkF m 28 #[.val (.int ik), .val (.int if_), .val (.int ix), .val (.long jv), .second, .val (.int ig), .val (.ref b172), .val (.ref b176), .unset] [])
  refine Go.step (fun _ k => XS.aload X177.here hx rfl (hb hby at_28) rfl rfl k) ?_
  show Go _ _ _ _ _ _ _ T177 (mkF m 30 #[.val (.int ik), .val (.int if_), .val (.int ix), .val (.long jv), .second, .val (.int ig), .val (.ref b172), .val (.ref b176), .unset] [(.ref b176)])
  refine Go.step (fun _ k => XS.iloadN X177.here hx rfl (hb hby at_30) rfl k) ?_
  show Go _ _ _ _ _ _ _ T177 (mkF m 31 #[.val (.int ik), .val (.int if_), .val (.int ix), .val (.long jv), .second, .val (.int ig), .val (.ref b172), .val (.ref b176), .unset] [(.int if_), (.ref b176)])
  obtain ⟨cq179, kq179, q179a, q179b, q179c⟩ := isOf hZ e177 E1_177
  obtain ⟨_, _, ⟨T179, L179, k179, n179⟩, -, X179, ⟨Lc179, hQ179, l179, y179, z179⟩, st179⟩ := X177.virtualBack hx (y := (⟨"com/example/stitchwire/stitchwire/Output", "writeByte", "(I)V"⟩ : MethodName)) (z := (⟨"com/example/stitchwire/stitchwire/Output", "writeByte", "(I)V"⟩ : MethodName)) hown (mvT hZ (hw _ (List.mem_of_getElem? (i := 12) rfl))) (mvT hZ (hw _ (List.mem_of_getElem? (i := 13) rfl))) (notFace_of_selects (args := #[]) (mvT hZ (hw _ (List.mem_of_getElem? (i := 15) rfl)))) (mvT hZ (hw _ (List.mem_of_getElem? (i := 15) rfl))) (mvT hZ (hw _ (List.mem_of_getElem? (i := 14) rfl))) (by decide) (backOf (W := 0) (rmWb l Z a0 hw [] b176 if_ ab_177 kb_177 (64 : Int32) (0 : Int32) (List.replicate 64 (.int (0 : Int32))) h177 n0 Z177 E1_177 Fb1_177 Fs1_177 V1_177 g_b176 g_ab_177 ne_b176_ab_177 (by rw [List.length_replicate]; rfl) (by decide) (by decide) (by decide)) hZ (hw _ (List.mem_of_getElem? (i := 16) rfl)) (hw _ (List.mem_of_getElem? (i := 3) rfl)) (by decide) (by decide)) q179a q179c (g := (mkF m 31 #[.val (.int ik), .val (.int if_), .val (.int ix), .val (.long jv), .second, .val (.int ig), .val (.ref b172), .val (.ref b176), .unset] [(.int if_), (.ref b176)])) rfl (by rw [hml]; rfl) (Steps.refl _) (argsL := [(.int if_)]) (rest := []) (lenOf pd__I_V rfl) rfl (by show 2 * 0 + _ ≤ _; exact Nat.le_of_eq rfl) (hb hby at_31) (fun _ _ => ⟨rfl, e177, (by decide : 3 + 0 ≤ _), (by decide : 166 + 0 ≤ _)⟩)
  dsimp only [Pt.U, Pt.locs, Pt.cells, Pt.slots] at X179 l179 y179 z179 st179 hQ179
  subst l179 y179 z179
  obtain ⟨h179, e179⟩ : ∃ h, T179.heap = h := ⟨_, rfl⟩
  rw [e179] at hQ179
  obtain ⟨rfl, Nq179, Kq179, E1_179, Fb1_179, Fs1_179, V1_179⟩ := hQ179
  have N179 := Fr.app N177 Nq179
  have Z179 : n0 ≤ h179.size := Nat.le_trans Z177 Kq179.1
  have Fs1_179 : Fld Z h179 b176 "com/example/stitchwire/stitchwire/Output" "size" "I" (.int (1 : Int32)) := Fs1_179
  refine Go.trans st179 ?_
  show Go _ _ _ _ _ _ _ T179 (mkF m 34 #[.val (.int ik), .val (.int if_), .val (.int ix), .val (.long jv), .second, .val (.int ig), .val (.ref b172), .val (.ref b176), .unset] [])
  refine Go.step (fun _ k => XS.iload X179.here hx rfl (hb hby at_34) rfl k) ?_
  show Go _ _ _ _ _ _ _ T179 (mkF m 36 #[.val (.int ik), .val (.int if_), .val (.int ix), .val (.long jv), .second, .val (.int ig), .val (.ref b172), .val (.ref b176), .unset] [(.int ig)])
  refine Go.step (fun _ k => XS.iconst X179.here hx rfl (hb hby at_36) k) ?_
  show Go _ _ _ _ _ _ _ T179 (mkF m 37 #[.val (.int ik), .val (.int if_), .val (.int ix), .val (.long jv), .second, .val (.int ig), .val (.ref b172), .val (.ref b176), .unset] [(.int (1 : Int32)), (.int ig)])
  refine Go.step (fun _ k => XS.iand X179.here hx rfl (hb hby at_37) rfl k) ?_
  show Go _ _ _ _ _ _ _ T179 (mkF m 38 #[.val (.int ik), .val (.int if_), .val (.int ix), .val (.long jv), .second, .val (.int ig), .val (.ref b172), .val (.ref b176), .unset] [(.int (ig &&& (1 : Int32)))])
  by_cases hc38_180 : (ig &&& (1 : Int32)) = (0 : Int32)
  · refine Go.step (fun _ k => XS.ifYes X179.here hx rfl (pc0 := 38) (pc' := 48) rfl (hb hby at_38) rfl ((if0 _ _).trans (teq hc38_180).1) (by decide) (by decide) k) ?_
    show Go _ _ _ _ _ _ _ T179 (mkF m 48 #[.val (.int ik), .val (.int if_), .val (.int ix), .val (.long jv), .second, .val (.int ig), .val (.ref b172), .val (.ref b176), .unset] [])
    refine Go.step (fun _ k => XS.aload X179.here hx rfl (hb hby at_48) rfl rfl k) ?_
    show Go _ _ _ _ _ _ _ T179 (mkF m 50 #[.val (.int ik), .val (.int if_), .val (.int ix), .val (.long jv), .second, .val (.int ig), .val (.ref b172), .val (.ref b176), .unset] [(.ref b176)])
    refine Go.step (fun _ k => XS.iloadN X179.here hx rfl (hb hby at_50) rfl k) ?_
    show Go _ _ _ _ _ _ _ T179 (mkF m 51 #[.val (.int ik), .val (.int if_), .val (.int ix), .val (.long jv), .second, .val (.int ig), .val (.ref b172), .val (.ref b176), .unset] [(.int ik), (.ref b176)])
    obtain ⟨cq181, kq181, q181a, q181b, q181c⟩ := isOf hZ e179 E1_179
    obtain ⟨_, _, ⟨T181, L181, k181, n181⟩, -, X181, ⟨Lc181, hQ181, l181, y181, z181⟩, st181⟩ := X179.virtualBack hx (y := (⟨"com/example/stitchwire/stitchwire/Output", "clear", "(I)V"⟩ : MethodName)) (z := (⟨"com/example/stitchwire/stitchwire/Output", "clear", "(I)V"⟩ : MethodName)) hown (mvT hZ (hw _ (List.mem_of_getElem? (i := 23) rfl))) (mvT hZ (hw _ (List.mem_of_getElem? (i := 24) rfl))) (notFace_of_selects (args := #[]) (mvT hZ (hw _ (List.mem_of_getElem? (i := 26) rfl)))) (mvT hZ (hw _ (List.mem_of_getElem? (i := 26) rfl))) (mvT hZ (hw _ (List.mem_of_getElem? (i := 25) rfl))) (by decide) (backOf (W := 0) (rmCl l Z a0 hw [] b176 ik ab_177 kb_177 (64 : Int32) (1 : Int32) ((List.replicate 64 (.int (0 : Int32))).set (0 : Int32).toNatClampNeg (.int (nar .byte if_.toInt8.toInt32))) h179 n0 Z179 E1_179 Fb1_179 Fs1_179 V1_179 g_b176 g_ab_177 ne_b176_ab_177 (by simp only [List.length_set, List.length_replicate]; rfl) (by decide)) hZ (hw _ (List.mem_of_getElem? (i := 27) rfl)) (hw _ (List.mem_of_getElem? (i := 3) rfl)) (by decide) (by decide)) q181a q181c (g := (mkF m 51 #[.val (.int ik), .val (.int if_), .val (.int ix), .val (.long jv), .second, .val (.int ig), .val (.ref b172), .val (.ref b176), .unset] [(.int ik), (.ref b176)])) rfl (by rw [hml]; rfl) (Steps.refl _) (argsL := [(.int ik)]) (rest := []) (lenOf pd__I_V rfl) rfl (by show 2 * 0 + _ ≤ _; exact Nat.le_of_eq rfl) (hb hby at_51) (fun _ _ => ⟨rfl, e179, (by decide : 3 + 1 ≤ _), (by decide : 166 + 64 ≤ _)⟩)
    dsimp only [Pt.U, Pt.locs, Pt.cells, Pt.slots] at X181 l181 y181 z181 st181 hQ181
    subst l181 y181 z181
    obtain ⟨h181, e181⟩ : ∃ h, T181.heap = h := ⟨_, rfl⟩
    rw [e181] at hQ181
    have f182 : Arv Z h179 b172 k172 .byte (100 : Int32) (((List.replicate 100 (.int (0 : Int32))).set 0 (.int (nar .byte (if_.toInt8.toInt32)))).set 99 (.int (nar .byte (ix.toInt8.toInt32)))) (.int (0 : Int32)) := ((f178.keep Kq177 (ninS ne_b172_b176 nin0)).keep Kq179 (ninS ne_b172_b176 (ninS ne_b172_ab_177 nin0)))
    obtain ⟨aq_181, kq_181, nq_181, vq_181, rfl, Nq181, Kq181, pg_181, pn_181, E1_181, Fb1_181, Fs1_181, V1_181, pl_181, p6_181⟩ := hQ181
    have N181 := Fr.app N179 Nq181
    have Z181 : n0 ≤ h181.size := Nat.le_trans Z179 Kq181.1
    refine Go.trans st181 ?_
    show Go _ _ _ _ _ _ _ T181 (mkF m 54 #[.val (.int ik), .val (.int if_), .val (.int ix), .val (.long jv), .second, .val (.int ig), .val (.ref b172), .val (.ref b176), .unset] [])
    refine Go.step (fun _ k => XS.aload X181.here hx rfl (hb hby at_54) rfl rfl k) ?_
    show Go _ _ _ _ _ _ _ T181 (mkF m 56 #[.val (.int ik), .val (.int if_), .val (.int ix), .val (.long jv), .second, .val (.int ig), .val (.ref b172), .val (.ref b176), .unset] [(.ref b176)])
    obtain ⟨cq183, kq183, q183a, q183b, q183c⟩ := isOf hZ e181 E1_181
    obtain ⟨_, _, ⟨T183, L183, k183, n183⟩, -, X183, ⟨Lc183, hQ183, l183, y183, z183⟩, st183⟩ := X181.virtualBack hx (y := (⟨"com/example/stitchwire/stitchwire/Output", "size", "()I"⟩ : MethodName)) (z := (⟨"com/example/stitchwire/stitchwire/Output", "size", "()I"⟩ : MethodName)) hown (mvT hZ (hw _ (List.mem_of_getElem? (i := 28) rfl))) (mvT hZ (hw _ (List.mem_of_getElem? (i := 29) rfl))) (notFace_of_selects (args := #[]) (mvT hZ (hw _ (List.mem_of_getElem? (i := 31) rfl)))) (mvT hZ (hw _ (List.mem_of_getElem? (i := 31) rfl))) (mvT hZ (hw _ (List.mem_of_getElem? (i := 30) rfl))) (by decide) (backOf (W := 0) (rmSi l Z a0 hw [] b176 (0 : Int32) h181 n0 Z181 E1_181 Fs1_181) hZ (hw _ (List.mem_of_getElem? (i := 32) rfl)) (hw _ (List.mem_of_getElem? (i := 3) rfl)) (by decide) (by decide)) q183a q183c (g := (mkF m 56 #[.val (.int ik), .val (.int if_), .val (.int ix), .val (.long jv), .second, .val (.int ig), .val (.ref b172), .val (.ref b176), .unset] [(.ref b176)])) rfl (by rw [hml]; rfl) (Steps.refl _) (argsL := []) (rest := []) (lenOf pd___I rfl) rfl (by show 2 * 0 + _ ≤ _; exact Nat.le_of_eq rfl) (hb hby at_56) (fun _ _ => ⟨rfl, e181, (by decide : 4 + 0 ≤ _), (by decide : 230 + 0 ≤ _)⟩)
    dsimp only [Pt.U, Pt.locs, Pt.cells, Pt.slots] at X183 l183 y183 z183 st183 hQ183
    subst l183 y183 z183
    obtain ⟨h183, e183⟩ : ∃ h, T183.heap = h := ⟨_, rfl⟩
    rw [e183] at hQ183
    obtain ⟨rfl, Nq183, hs183⟩ := hQ183
    have N183 := Fr.app N181 Nq183
    rw [hs183] at e183
    refine Go.trans st183 ?_
    show Go _ _ _ _ _ _ _ T183 (mkF m 59 #[.val (.int ik), .val (.int if_), .val (.int ix), .val (.long jv), .second, .val (.int ig), .val (.ref b172), .val (.ref b176), .unset] [(.int (0 : Int32))])
    have hc59_184 : (0 : Int32) = (0 : Int32) := (by decide)
    refine Go.step (fun _ k => XS.ifYes X183.here hx rfl (pc0 := 59) (pc' := 64) rfl (hb hby at_59) rfl ((if0 _ _).trans (teq hc59_184).1) (by decide) (by decide) k) ?_
    show Go _ _ _ _ _ _ _ T183 (mkF m 64 #[.val (.int ik), .val (.int if_), .val (.int ix), .val (.long jv), .second, .val (.int ig), .val (.ref b172), .val (.ref b176), .unset] [])
    refine Go.step (fun _ k => XS.aload X183.here hx rfl (hb hby at_64) rfl rfl k) ?_
    show Go _ _ _ _ _ _ _ T183 (mkF m 66 #[.val (.int ik), .val (.int if_), .val (.int ix), .val (.long jv), .second, .val (.int ig), .val (.ref b172), .val (.ref b176), .unset] [(.ref b176)])
    obtain ⟨cq185, kq185, q185a, q185b, q185c⟩ := isOf hZ e183 E1_181
    obtain ⟨_, _, ⟨T185, L185, k185, n185⟩, -, X185, ⟨Lc185, hQ185, l185, y185, z185⟩, st185⟩ := X183.virtualBack hx (y := (⟨"com/example/stitchwire/stitchwire/Output", "toByteArray", "()[B"⟩ : MethodName)) (z := (⟨"com/example/stitchwire/stitchwire/Output", "toByteArray", "()[B"⟩ : MethodName)) hown (mvT hZ (hw _ (List.mem_of_getElem? (i := 33) rfl))) (mvT hZ (hw _ (List.mem_of_getElem? (i := 34) rfl))) (notFace_of_selects (args := #[]) (mvT hZ (hw _ (List.mem_of_getElem? (i := 36) rfl)))) (mvT hZ (hw _ (List.mem_of_getElem? (i := 36) rfl))) (mvT hZ (hw _ (List.mem_of_getElem? (i := 35) rfl))) (by decide) (backOf (W := 0) (rmTb l Z a0 hw [] b176 aq_181 kq_181 nq_181 (0 : Int32) vq_181 h181 n0 Z181 E1_181 Fb1_181 Fs1_181 V1_181 pl_181 (by decide) (by have := rng32 nq_181; have : (0 : Int32).toInt = 0 := rfl; have : (16 : Int32).toInt = 16 := rfl; have : (64 : Int32).toInt = 64 := rfl; have q6 := p6_181; simp only [Int32.lt_iff_toInt_lt, Int32.le_iff_toInt_le, ← Int32.toInt_inj, Int64.lt_iff_toInt_lt, Int64.le_iff_toInt_le, ← Int64.toInt_inj] at q6 ⊢; omega) (by decide)) hZ (hw _ (List.mem_of_getElem? (i := 37) rfl)) (hw _ (List.mem_of_getElem? (i := 3) rfl)) (by decide) (by decide)) q185a q185c (g := (mkF m 66 #[.val (.int ik), .val (.int if_), .val (.int ix), .val (.long jv), .second, .val (.int ig), .val (.ref b172), .val (.ref b176), .unset] [(.ref b176)])) rfl (by rw [hml]; rfl) (Steps.refl _) (argsL := []) (rest := []) (lenOf pd____B rfl) rfl (by show 2 * 0 + _ ≤ _; exact Nat.le_of_eq rfl) (hb hby at_66) (fun _ _ => ⟨rfl, e183, (by decide : 4 + 1 ≤ _), (by decide : 230 + 16 ≤ _)⟩)
    dsimp only [Pt.U, Pt.locs, Pt.cells, Pt.slots] at X185 l185 y185 z185 st185 hQ185
    subst l185 y185 z185
    obtain ⟨h185, e185⟩ : ∃ h, T185.heap = h := ⟨_, rfl⟩
    rw [e185] at hQ185
    obtain ⟨ar_185, kr_185, vr_185, rfl, Nq185, Kq185, sz__185, V1_185, pl_185, pa_185⟩ := hQ185
    have N185 := Fr.app N183 Nq185
    have Z185 : n0 ≤ h185.size := Nat.le_trans Z181 Kq185.1
    have g_ar_185 : n0 ≤ ar_185 := Nat.le_trans Z181 sz__185
    have ne_aq_181_ar_185 : aq_181 ≠ ar_185 := Nat.ne_of_lt (Nat.lt_of_lt_of_le V1_181.lt sz__185)
    have ne_b176_ar_185 : b176 ≠ ar_185 := Nat.ne_of_lt (Nat.lt_of_lt_of_le E1_181.lt sz__185)
    refine Go.trans st185 ?_
    show Go _ _ _ _ _ _ _ T185 (mkF m 69 #[.val (.int ik), .val (.int if_), .val (.int ix), .val (.long jv), .second, .val (.int ig), .val (.ref b172), .val (.ref b176), .unset] [(.ref ar_185)])
    obtain ⟨cl186, Ar186, -, S186, M186, -, -⟩ := id (V1_185)
    have al186 := X185.arraylength hx (by rw [e185]; exact Ar186.1) (State.isArrayOf_alike hZ.alike Ar186.2.1) (g := (mkF m 69 #[.val (.int ik), .val (.int if_), .val (.int ix), .val (.long jv), .second, .val (.int ig), .val (.ref b172), .val (.ref b176), .unset] [(.ref ar_185)])) rfl rfl (hb hby at_69)
    rw [len_of S186 M186] at al186
    refine Go.step al186 ?_
    show Go _ _ _ _ _ _ _ T185 (mkF m 70 #[.val (.int ik), .val (.int if_), .val (.int ix), .val (.long jv), .second, .val (.int ig), .val (.ref b172), .val (.ref b176), .unset] [(.int (0 : Int32))])
    have hc70_187 : (0 : Int32) = (0 : Int32) := (by decide)
    refine Go.step (fun _ k => XS.ifYes X185.here hx rfl (pc0 := 70) (pc' := 75) rfl (hb hby at_70) rfl ((if0 _ _).trans (teq hc70_187).1) (by decide) (by decide) k) ?_
    show Go _ _ _ _ _ _ _ T185 (mkF m 75 #[.val (.int ik), .val (.int if_), .val (.int ix), .val (.long jv), .second, .val (.int ig), .val (.ref b172), .val (.ref b176), .unset] [])
    refine Go.step (fun _ k => XS.aload X185.here hx rfl (hb hby at_75) rfl rfl k) ?_
    show Go _ _ _ _ _ _ _ T185 (mkF m 77 #[.val (.int ik), .val (.int if_), .val (.int ix), .val (.long jv), .second, .val (.int ig), .val (.ref b172), .val (.ref b176), .unset] [(.ref b176)])
    refine Go.step (fun _ k => XS.iloadN X185.here hx rfl (hb hby at_77) rfl k) ?_
    show Go _ _ _ _ _ _ _ T185 (mkF m 78 #[.val (.int ik), .val (.int if_), .val (.int ix), .val (.long jv), .second, .val (.int ig), .val (.ref b172), .val (.ref b176), .unset] [(.int ix), (.ref b176)])
    have f189 : Exa Z h185 b176 "com/example/stitchwire/stitchwire/Output" := (E1_181.keep Kq185)
    have f190 : Fld Z h185 b176 "com/example/stitchwire/stitchwire/Output" "buffer" "[B" (.ref aq_181) := (Fb1_181.keep Kq185 nin0)
    have f191 : Fld Z h185 b176 "com/example/stitchwire/stitchwire/Output" "size" "I" (.int (0 : Int32)) := (Fs1_181.keep Kq185 nin0)
    have f192 : Arv Z h185 aq_181 kq_181 .byte nq_181 vq_181 (.int (0 : Int32)) := (V1_181.keep Kq185 nin0)
    obtain ⟨cq188, kq188, q188a, q188b, q188c⟩ := isOf hZ e185 f189
    obtain ⟨_, _, ⟨T188, L188, k188, n188⟩, -, X188, ⟨Lc188, hQ188, l188, y188, z188⟩, st188⟩ := X185.virtualBack hx (y := (⟨"com/example/stitchwire/stitchwire/Output", "writeByte", "(I)V"⟩ : MethodName)) (z := (⟨"com/example/stitchwire/stitchwire/Output", "writeByte", "(I)V"⟩ : MethodName)) hown (mvT hZ (hw _ (List.mem_of_getElem? (i := 12) rfl))) (mvT hZ (hw _ (List.mem_of_getElem? (i := 13) rfl))) (notFace_of_selects (args := #[]) (mvT hZ (hw _ (List.mem_of_getElem? (i := 15) rfl)))) (mvT hZ (hw _ (List.mem_of_getElem? (i := 15) rfl))) (mvT hZ (hw _ (List.mem_of_getElem? (i := 14) rfl))) (by decide) (backOf (W := 0) (rmWb l Z a0 hw [] b176 ix aq_181 kq_181 nq_181 (0 : Int32) vq_181 h185 n0 Z185 f189 f190 f191 f192 g_b176 pg_181 pn_181 pl_181 (by have := rng32 nq_181; have : (0 : Int32).toInt = 0 := rfl; have := rng32 (nq_181 - (0 : Int32)); have := c_isub nq_181 (0 : Int32); have : (1 : Int32).toInt = 1 := rfl; have : (64 : Int32).toInt = 64 := rfl; have q6 := p6_181; simp only [Int32.lt_iff_toInt_lt, Int32.le_iff_toInt_le, ← Int32.toInt_inj, Int64.lt_iff_toInt_lt, Int64.le_iff_toInt_le, ← Int64.toInt_inj] at q6 ⊢; omega) (by decide) (by have := rng32 nq_181; have : (0 : Int32).toInt = 0 := rfl; have := rng32 (nq_181 - (0 : Int32)); have := c_isub nq_181 (0 : Int32); have : (1 : Int32).toInt = 1 := rfl; have : (64 : Int32).toInt = 64 := rfl; have q6 := p6_181; simp only [Int32.lt_iff_toInt_lt, Int32.le_iff_toInt_le, ← Int32.toInt_inj, Int64.lt_iff_toInt_lt, Int64.le_iff_toInt_le, ← Int64.toInt_inj] at q6 ⊢; omega)) hZ (hw _ (List.mem_of_getElem? (i := 16) rfl)) (hw _ (List.mem_of_getElem? (i := 3) rfl)) (by decide) (by decide)) q188a q188c (g := (mkF m 78 #[.val (.int ik), .val (.int if_), .val (.int ix), .val (.long jv), .second, .val (.int ig), .val (.ref b172), .val (.ref b176), .unset] [(.int ix), (.ref b176)])) rfl (by rw [hml]; rfl) (Steps.refl _) (argsL := [(.int ix)]) (rest := []) (lenOf pd__I_V rfl) rfl (by show 2 * 0 + _ ≤ _; exact Nat.le_of_eq rfl) (hb hby at_78) (fun _ _ => ⟨rfl, e185, (by decide : 5 + 0 ≤ _), (by decide : 246 + 0 ≤ _)⟩)
    dsimp only [Pt.U, Pt.locs, Pt.cells, Pt.slots] at X188 l188 y188 z188 st188 hQ188
    subst l188 y188 z188
    obtain ⟨h188, e188⟩ : ∃ h, T188.heap = h := ⟨_, rfl⟩
    rw [e188] at hQ188
    obtain ⟨rfl, Nq188, Kq188, E1_188, Fb1_188, Fs1_188, V1_188⟩ := hQ188
    have N188 := Fr.app N185 Nq188
    have Z188 : n0 ≤ h188.size := Nat.le_trans Z185 Kq188.1
    have Fs1_188 : Fld Z h188 b176 "com/example/stitchwire/stitchwire/Output" "size" "I" (.int (1 : Int32)) := Fs1_188
    refine Go.trans st188 ?_
    show Go _ _ _ _ _ _ _ T188 (mkF m 81 #[.val (.int ik), .val (.int if_), .val (.int ix), .val (.long jv), .second, .val (.int ig), .val (.ref b172), .val (.ref b176), .unset] [])
    refine Go.step (fun _ k => XS.aload X188.here hx rfl (hb hby at_81) rfl rfl k) ?_
    show Go _ _ _ _ _ _ _ T188 (mkF m 83 #[.val (.int ik), .val (.int if_), .val (.int ix), .val (.long jv), .second, .val (.int ig), .val (.ref b172), .val (.ref b176), .unset] [(.ref b176)])
    refine Go.step (fun _ k => XS.lloadN X188.here hx rfl (hb hby at_83) rfl k) ?_
    show Go _ _ _ _ _ _ _ T188 (mkF m 84 #[.val (.int ik), .val (.int if_), .val (.int ix), .val (.long jv), .second, .val (.int ig), .val (.ref b172), .val (.ref b176), .unset] [(.long jv), (.ref b176)])
    obtain ⟨cq193, kq193, q193a, q193b, q193c⟩ := isOf hZ e188 E1_188
    obtain ⟨_, _, ⟨T193, L193, k193, n193⟩, -, X193, ⟨Lc193, hQ193, l193, y193, z193⟩, st193⟩ := X188.virtualBack hx (y := (⟨"com/example/stitchwire/stitchwire/Output", "writeFixed64", "(J)V"⟩ : MethodName)) (z := (⟨"com/example/stitchwire/stitchwire/Output", "writeFixed64", "(J)V"⟩ : MethodName)) hown (mvT hZ (hw _ (List.mem_of_getElem? (i := 50) rfl))) (mvT hZ (hw _ (List.mem_of_getElem? (i := 51) rfl))) (notFace_of_selects (args := #[]) (mvT hZ (hw _ (List.mem_of_getElem? (i := 53) rfl)))) (mvT hZ (hw _ (List.mem_of_getElem? (i := 53) rfl))) (mvT hZ (hw _ (List.mem_of_getElem? (i := 52) rfl))) (by decide) (backOf (W := 0) (rmF8 l Z a0 hw [] b176 jv aq_181 kq_181 nq_181 (vq_181.set (0 : Int32).toNatClampNeg (.int (nar .byte ix.toInt8.toInt32))) h188 n0 Z188 E1_188 Fb1_188 Fs1_188 V1_188 g_b176 pg_181 pn_181 (by simp only [List.length_set]; exact pl_181) p6_181 (by have := rng32 nq_181; have : (1 : Int32).toInt = 1 := rfl; have := rng32 (nq_181 - (1 : Int32)); have := c_isub nq_181 (1 : Int32); have : (8 : Int32).toInt = 8 := rfl; have : (64 : Int32).toInt = 64 := rfl; have q6 := p6_181; simp only [Int32.lt_iff_toInt_lt, Int32.le_iff_toInt_le, ← Int32.toInt_inj, Int64.lt_iff_toInt_lt, Int64.le_iff_toInt_le, ← Int64.toInt_inj] at q6 ⊢; omega)) hZ (hw _ (List.mem_of_getElem? (i := 54) rfl)) (hw _ (List.mem_of_getElem? (i := 3) rfl)) (by decide) (by decide)) q193a q193c (g := (mkF m 84 #[.val (.int ik), .val (.int if_), .val (.int ix), .val (.long jv), .second, .val (.int ig), .val (.ref b172), .val (.ref b176), .unset] [(.long jv), (.ref b176)])) rfl (by rw [hml]; rfl) (Steps.refl _) (argsL := [(.long jv)]) (rest := []) (lenOf pd__J_V rfl) rfl (by show 2 * 0 + _ ≤ _; exact Nat.le_of_eq rfl) (hb hby at_84) (fun _ _ => ⟨rfl, e188, (by decide : 5 + 0 ≤ _), (by decide : 246 + 0 ≤ _)⟩)
    dsimp only [Pt.U, Pt.locs, Pt.cells, Pt.slots] at X193 l193 y193 z193 st193 hQ193
    subst l193 y193 z193
    obtain ⟨h193, e193⟩ : ∃ h, T193.heap = h := ⟨_, rfl⟩
    rw [e193] at hQ193
    obtain ⟨rfl, Nq193, Kq193, E1_193, Fb1_193, Fs1_193, V1_193⟩ := hQ193
    have N193 := Fr.app N188 Nq193
    have Z193 : n0 ≤ h193.size := Nat.le_trans Z188 Kq193.1
    refine Go.trans st193 ?_
    show Go _ _ _ _ _ _ _ T193 (mkF m 87 #[.val (.int ik), .val (.int if_), .val (.int ix), .val (.long jv), .second, .val (.int ig), .val (.ref b172), .val (.ref b176), .unset] [])
    refine Go.step (fun _ k => XS.aload X193.here hx rfl (hb hby at_87) rfl rfl k) ?_
    show Go _ _ _ _ _ _ _ T193 (mkF m 89 #[.val (.int ik), .val (.int if_), .val (.int ix), .val (.long jv), .second, .val (.int ig), .val (.ref b172), .val (.ref b176), .unset] [(.ref b176)])
    obtain ⟨cq194, kq194, q194a, q194b, q194c⟩ := isOf hZ e193 E1_193
    obtain ⟨_, _, ⟨T194, L194, k194, n194⟩, -, X194, ⟨Lc194, hQ194, l194, y194, z194⟩, st194⟩ := X193.virtualBack hx (y := (⟨"com/example/stitchwire/stitchwire/Output", "toByteArray", "()[B"⟩ : MethodName)) (z := (⟨"com/example/stitchwire/stitchwire/Output", "toByteArray", "()[B"⟩ : MethodName)) hown (mvT hZ (hw _ (List.mem_of_getElem? (i := 33) rfl))) (mvT hZ (hw _ (List.mem_of_getElem? (i := 34) rfl))) (notFace_of_selects (args := #[]) (mvT hZ (hw _ (List.mem_of_getElem? (i := 36) rfl)))) (mvT hZ (hw _ (List.mem_of_getElem? (i := 36) rfl))) (mvT hZ (hw _ (List.mem_of_getElem? (i := 35) rfl))) (by decide) (backOf (W := 0) (rmTb l Z a0 hw [] b176 aq_181 kq_181 nq_181 (9 : Int32) (((((((((vq_181.set (0 : Int32).toNatClampNeg (.int (nar .byte ix.toInt8.toInt32))).set 1 (.int (nar .byte ((((jv.toUInt64 >>> ((0 : Int32) &&& 0x3f).toInt64.toUInt64).toInt64).toInt32).toInt8.toInt32)))).set 2 (.int (nar .byte ((((jv.toUInt64 >>> ((8 : Int32) &&& 0x3f).toInt64.toUInt64).toInt64).toInt32).toInt8.toInt32)))).set 3 (.int (nar .byte ((((jv.toUInt64 >>> ((16 : Int32) &&& 0x3f).toInt64.toUInt64).toInt64).toInt32).toInt8.toInt32)))).set 4 (.int (nar .byte ((((jv.toUInt64 >>> ((24 : Int32) &&& 0x3f).toInt64.toUInt64).toInt64).toInt32).toInt8.toInt32)))).set 5 (.int (nar .byte ((((jv.toUInt64 >>> ((32 : Int32) &&& 0x3f).toInt64.toUInt64).toInt64).toInt32).toInt8.toInt32)))).set 6 (.int (nar .byte ((((jv.toUInt64 >>> ((40 : Int32) &&& 0x3f).toInt64.toUInt64).toInt64).toInt32).toInt8.toInt32)))).set 7 (.int (nar .byte ((((jv.toUInt64 >>> ((48 : Int32) &&& 0x3f).toInt64.toUInt64).toInt64).toInt32).toInt8.toInt32)))).set 8 (.int (nar .byte ((((jv.toUInt64 >>> ((56 : Int32) &&& 0x3f).toInt64.toUInt64).toInt64).toInt32).toInt8.toInt32)))) h193 n0 Z193 E1_193 Fb1_193 Fs1_193 V1_193 (by simp only [List.length_set]; exact pl_181) (by decide) (by have := rng32 nq_181; have : (9 : Int32).toInt = 9 := rfl; have : (0 : Int32).toInt = 0 := rfl; have : (16 : Int32).toInt = 16 := rfl; have : (64 : Int32).toInt = 64 := rfl; have q6 := p6_181; simp only [Int32.lt_iff_toInt_lt, Int32.le_iff_toInt_le, ← Int32.toInt_inj, Int64.lt_iff_toInt_lt, Int64.le_iff_toInt_le, ← Int64.toInt_inj] at q6 ⊢; omega) (by decide)) hZ (hw _ (List.mem_of_getElem? (i := 37) rfl)) (hw _ (List.mem_of_getElem? (i := 3) rfl)) (by decide) (by decide)) q194a q194c (g := (mkF m 89 #[.val (.int ik), .val (.int if_), .val (.int ix), .val (.long jv), .second, .val (.int ig), .val (.ref b172), .val (.ref b176), .unset] [(.ref b176)])) rfl (by rw [hml]; rfl) (Steps.refl _) (argsL := []) (rest := []) (lenOf pd____B rfl) rfl (by show 2 * 0 + _ ≤ _; exact Nat.le_of_eq rfl) (hb hby at_89) (fun _ _ => ⟨rfl, e193, (by decide : 5 + 1 ≤ _), (by decide : 246 + 16 ≤ _)⟩)
    dsimp only [Pt.U, Pt.locs, Pt.cells, Pt.slots] at X194 l194 y194 z194 st194 hQ194
    subst l194 y194 z194
    obtain ⟨h194, e194⟩ : ∃ h, T194.heap = h := ⟨_, rfl⟩
    rw [e194] at hQ194
    have f195 : Arv Z h193 ar_185 kr_185 .byte (0 : Int32) vr_185 (.int (0 : Int32)) := ((V1_185.keep Kq188 (ninS (Ne.symm ne_b176_ar_185) (ninS (Ne.symm ne_aq_181_ar_185) nin0))).keep Kq193 (ninS (Ne.symm ne_b176_ar_185) (ninS (Ne.symm ne_aq_181_ar_185) nin0)))
    obtain ⟨ar_194, kr_194, vr_194, rfl, Nq194, Kq194, sz__194, V1_194, pl_194, pa_194⟩ := hQ194
    have N194 := Fr.app N193 Nq194
    have Z194 : n0 ≤ h194.size := Nat.le_trans Z193 Kq194.1
    have g_ar_194 : n0 ≤ ar_194 := Nat.le_trans Z193 sz__194
    have ne_aq_181_ar_194 : aq_181 ≠ ar_194 := Nat.ne_of_lt (Nat.lt_of_lt_of_le V1_193.lt sz__194)
    have ne_ar_185_ar_194 : ar_185 ≠ ar_194 := Nat.ne_of_lt (Nat.lt_of_lt_of_le f195.lt sz__194)
    have ne_b176_ar_194 : b176 ≠ ar_194 := Nat.ne_of_lt (Nat.lt_of_lt_of_le E1_193.lt sz__194)
    refine Go.trans st194 ?_
    show Go _ _ _ _ _ _ _ T194 (mkF m 92 #[.val (.int ik), .val (.int if_), .val (.int ix), .val (.long jv), .second, .val (.int ig), .val (.ref b172), .val (.ref b176), .unset] [(.ref ar_194)])
    refine Go.step (fun _ k => XS.astore X194.here hx rfl (hb hby at_92) rfl rfl (l' := #[.val (.int ik), .val (.int if_), .val (.int ix), .val (.long jv), .second, .val (.int ig), .val (.ref b172), .val (.ref b176), .val (.ref ar_194)]) rfl k) ?_
    show Go _ _ _ _ _ _ _ T194 (mkF m 94 #[.val (.int ik), .val (.int if_), .val (.int ix), .val (.long jv), .second, .val (.int ig), .val (.ref b172), .val (.ref b176), .val (.ref ar_194)] [])
    refine Go.step (fun _ k => XS.aload X194.here hx rfl (hb hby at_94) rfl rfl k) ?_
    show Go _ _ _ _ _ _ _ T194 (mkF m 96 #[.val (.int ik), .val (.int if_), .val (.int ix), .val (.long jv), .second, .val (.int ig), .val (.ref b172), .val (.ref b176), .val (.ref ar_194)] [(.ref ar_194)])
    obtain ⟨cl196, Ar196, -, S196, M196, -, -⟩ := id (V1_194)
    have al196 := X194.arraylength hx (by rw [e194]; exact Ar196.1) (State.isArrayOf_alike hZ.alike Ar196.2.1) (g := (mkF m 96 #[.val (.int ik), .val (.int if_), .val (.int ix), .val (.long jv), .second, .val (.int ig), .val (.ref b172), .val (.ref b176), .val (.ref ar_194)] [(.ref ar_194)])) rfl rfl (hb hby at_96)
    rw [len_of S196 M196] at al196
    refine Go.step al196 ?_
    show Go _ _ _ _ _ _ _ T194 (mkF m 97 #[.val (.int ik), .val (.int if_), .val (.int ix), .val (.long jv), .second, .val (.int ig), .val (.ref b172), .val (.ref b176), .val (.ref ar_194)] [(.int (9 : Int32))])
    refine Go.step (fun _ k => XS.bipush X194.here hx rfl (hb hby at_97) k) ?_
    show Go _ _ _ _ _ _ _ T194 (mkF m 99 #[.val (.int ik), .val (.int if_), .val (.int ix), .val (.long jv), .second, .val (.int ig), .val (.ref b172), .val (.ref b176), .val (.ref ar_194)] [(.int (9 : Int32)), (.int (9 : Int32))])
    have hc99_197 : (9 : Int32) = (9 : Int32) := (by decide)
    refine Go.step (fun _ k => XS.icmpYes X194.here hx rfl (pc0 := 99) (pc' := 104) rfl (hb hby at_99) rfl (teq hc99_197).1 (by decide) (by decide) k) ?_
    show Go _ _ _ _ _ _ _ T194 (mkF m 104 #[.val (.int ik), .val (.int if_), .val (.int ix), .val (.long jv), .second, .val (.int ig), .val (.ref b172), .val (.ref b176), .val (.ref ar_194)] [])
    refine Go.step (fun _ k => XS.aload X194.here hx rfl (hb hby at_104) rfl rfl k) ?_
    show Go _ _ _ _ _ _ _ T194 (mkF m 106 #[.val (.int ik), .val (.int if_), .val (.int ix), .val (.long jv), .second, .val (.int ig), .val (.ref b172), .val (.ref b176), .val (.ref ar_194)] [(.ref b176)])
    have f199 : Exa Z h194 b176 "com/example/stitchwire/stitchwire/Output" := (E1_193.keep Kq194)
    have f200 : Fld Z h194 b176 "com/example/stitchwire/stitchwire/Output" "size" "I" (.int (9 : Int32)) := (Fs1_193.keep Kq194 nin0)
    obtain ⟨cq198, kq198, q198a, q198b, q198c⟩ := isOf hZ e194 f199
    obtain ⟨_, _, ⟨T198, L198, k198, n198⟩, -, X198, ⟨Lc198, hQ198, l198, y198, z198⟩, st198⟩ := X194.virtualBack hx (y := (⟨"com/example/stitchwire/stitchwire/Output", "size", "()I"⟩ : MethodName)) (z := (⟨"com/example/stitchwire/stitchwire/Output", "size", "()I"⟩ : MethodName)) hown (mvT hZ (hw _ (List.mem_of_getElem? (i := 28) rfl))) (mvT hZ (hw _ (List.mem_of_getElem? (i := 29) rfl))) (notFace_of_selects (args := #[]) (mvT hZ (hw _ (List.mem_of_getElem? (i := 31) rfl)))) (mvT hZ (hw _ (List.mem_of_getElem? (i := 31) rfl))) (mvT hZ (hw _ (List.mem_of_getElem? (i := 30) rfl))) (by decide) (backOf (W := 0) (rmSi l Z a0 hw [] b176 (9 : Int32) h194 n0 Z194 f199 f200) hZ (hw _ (List.mem_of_getElem? (i := 32) rfl)) (hw _ (List.mem_of_getElem? (i := 3) rfl)) (by decide) (by decide)) q198a q198c (g := (mkF m 106 #[.val (.int ik), .val (.int if_), .val (.int ix), .val (.long jv), .second, .val (.int ig), .val (.ref b172), .val (.ref b176), .val (.ref ar_194)] [(.ref b176)])) rfl (by rw [hml]; rfl) (Steps.refl _) (argsL := []) (rest := []) (lenOf pd___I rfl) rfl (by show 2 * 0 + _ ≤ _; exact Nat.le_of_eq rfl) (hb hby at_106) (fun _ _ => ⟨rfl, e194, (by decide : 6 + 0 ≤ _), (by decide : 262 + 0 ≤ _)⟩)
    dsimp only [Pt.U, Pt.locs, Pt.cells, Pt.slots] at X198 l198 y198 z198 st198 hQ198
    subst l198 y198 z198
    obtain ⟨h198, e198⟩ : ∃ h, T198.heap = h := ⟨_, rfl⟩
    rw [e198] at hQ198
    obtain ⟨rfl, Nq198, hs198⟩ := hQ198
    have N198 := Fr.app N194 Nq198
    rw [hs198] at e198
    refine Go.trans st198 ?_
    show Go _ _ _ _ _ _ _ T198 (mkF m 109 #[.val (.int ik), .val (.int if_), .val (.int ix), .val (.long jv), .second, .val (.int ig), .val (.ref b172), .val (.ref b176), .val (.ref ar_194)] [(.int (9 : Int32))])
    refine Go.step (fun _ k => XS.bipush X198.here hx rfl (hb hby at_109) k) ?_
    show Go _ _ _ _ _ _ _ T198 (mkF m 111 #[.val (.int ik), .val (.int if_), .val (.int ix), .val (.long jv), .second, .val (.int ig), .val (.ref b172), .val (.ref b176), .val (.ref ar_194)] [(.int (9 : Int32)), (.int (9 : Int32))])
    have hc111_201 : (9 : Int32) = (9 : Int32) := (by decide)
    refine Go.step (fun _ k => XS.icmpYes X198.here hx rfl (pc0 := 111) (pc' := 116) rfl (hb hby at_111) rfl (teq hc111_201).1 (by decide) (by decide) k) ?_
    show Go _ _ _ _ _ _ _ T198 (mkF m 116 #[.val (.int ik), .val (.int if_), .val (.int ix), .val (.long jv), .second, .val (.int ig), .val (.ref b172), .val (.ref b176), .val (.ref ar_194)] [])
    refine Go.step (fun _ k => XS.aload X198.here hx rfl (hb hby at_116) rfl rfl k) ?_
    show Go _ _ _ _ _ _ _ T198 (mkF m 118 #[.val (.int ik), .val (.int if_), .val (.int ix), .val (.long jv), .second, .val (.int ig), .val (.ref b172), .val (.ref b176), .val (.ref ar_194)] [(.ref ar_194)])
    refine Go.step (fun _ k => XS.iconst X198.here hx rfl (hb hby at_118) k) ?_
    show Go _ _ _ _ _ _ _ T198 (mkF m 119 #[.val (.int ik), .val (.int if_), .val (.int ix), .val (.long jv), .second, .val (.int ig), .val (.ref b172), .val (.ref b176), .val (.ref ar_194)] [(.int (0 : Int32)), (.ref ar_194)])
    obtain ⟨cl202, Ar202, q202, S202, M202, H202, G202⟩ := id (V1_194)
    have hin202 : ¬ ((0 : Int32) < 0 ∨ cl202.slots.size ≤ ((0 : Int32)).toNatClampNeg) := inb_of S202 ⟨by decide, by decide⟩
    have hat202 : cl202.slots[((0 : Int32)).toNatClampNeg]? = some (.int (nar .byte ix.toInt8.toInt32)) := H202.at hin202 ((pa_194 _ (by decide)).trans ((own_n (by decide)).trans ((own_n (by decide)).trans ((own_n (by decide)).trans ((own_n (by decide)).trans ((own_n (by decide)).trans ((own_n (by decide)).trans ((own_n (by decide)).trans ((own_n (by decide)).trans (own_g (by (try simp only [List.length_set]); exact Nat.lt_of_lt_of_le (by decide) (own_64 p6_181 pl_181))))))))))))
    refine Go.step (X198.baloadBytes hx (j := (0 : Int32)) (v := (.int (nar .byte ix.toInt8.toInt32))) (by rw [e198]; exact Ar202.1) (State.isArrayOf_alike hZ.alike Ar202.2.1) Ar202.2.2 hin202 hat202 (g := (mkF m 119 #[.val (.int ik), .val (.int if_), .val (.int ix), .val (.long jv), .second, .val (.int ig), .val (.ref b172), .val (.ref b176), .val (.ref ar_194)] [(.int (0 : Int32)), (.ref ar_194)])) rfl rfl (hb hby at_119)) ?_
    show Go _ _ _ _ _ _ _ T198 (mkF m 120 #[.val (.int ik), .val (.int if_), .val (.int ix), .val (.long jv), .second, .val (.int ig), .val (.ref b172), .val (.ref b176), .val (.ref ar_194)] [(.int (nar .byte ix.toInt8.toInt32))])
    refine Go.step (fun _ k => XS.iloadN X198.here hx rfl (hb hby at_120) rfl k) ?_
    show Go _ _ _ _ _ _ _ T198 (mkF m 121 #[.val (.int ik), .val (.int if_), .val (.int ix), .val (.long jv), .second, .val (.int ig), .val (.ref b172), .val (.ref b176), .val (.ref ar_194)] [(.int ix), (.int (nar .byte ix.toInt8.toInt32))])
    refine Go.step (fun _ k => XS.i2b X198.here hx rfl (hb hby at_121) rfl k) ?_
    show Go _ _ _ _ _ _ _ T198 (mkF m 122 #[.val (.int ik), .val (.int if_), .val (.int ix), .val (.long jv), .second, .val (.int ig), .val (.ref b172), .val (.ref b176), .val (.ref ar_194)] [(.int (ix.toInt8.toInt32)), (.int (nar .byte ix.toInt8.toInt32))])
    have hc122_203 : (nar .byte ix.toInt8.toInt32) = (ix.toInt8.toInt32) := own_i2b2 _
    refine Go.step (fun _ k => XS.icmpNo X198.here hx rfl (hb hby at_122) rfl (teq hc122_203).2 k) ?_
    show Go _ _ _ _ _ _ _ T198 (mkF m 125 #[.val (.int ik), .val (.int if_), .val (.int ix), .val (.long jv), .second, .val (.int ig), .val (.ref b172), .val (.ref b176), .val (.ref ar_194)] [])
    refine Go.step (fun _ k => XS.aload X198.here hx rfl (hb hby at_125) rfl rfl k) ?_
    show Go _ _ _ _ _ _ _ T198 (mkF m 127 #[.val (.int ik), .val (.int if_), .val (.int ix), .val (.long jv), .second, .val (.int ig), .val (.ref b172), .val (.ref b176), .val (.ref ar_194)] [(.ref ar_194)])
    refine Go.step (fun _ k => XS.iconst X198.here hx rfl (hb hby at_127) k) ?_
    show Go _ _ _ _ _ _ _ T198 (mkF m 128 #[.val (.int ik), .val (.int if_), .val (.int ix), .val (.long jv), .second, .val (.int ig), .val (.ref b172), .val (.ref b176), .val (.ref ar_194)] [(.int (1 : Int32)), (.ref ar_194)])
    obtain ⟨cl204, Ar204, q204, S204, M204, H204, G204⟩ := id (V1_194)
    have hin204 : ¬ ((1 : Int32) < 0 ∨ cl204.slots.size ≤ ((1 : Int32)).toNatClampNeg) := inb_of S204 ⟨by decide, by decide⟩
    have hat204 : cl204.slots[((1 : Int32)).toNatClampNeg]? = some (.int (nar .byte ((((jv.toUInt64 >>> ((0 : Int32) &&& 0x3f).toInt64.toUInt64).toInt64).toInt32).toInt8.toInt32))) := H204.at hin204 ((pa_194 _ (by decide)).trans ((own_n (by decide)).trans ((own_n (by decide)).trans ((own_n (by decide)).trans ((own_n (by decide)).trans ((own_n (by decide)).trans ((own_n (by decide)).trans ((own_n (by decide)).trans (own_g (by (try simp only [List.length_set]); exact Nat.lt_of_lt_of_le (by decide) (own_64 p6_181 pl_181)))))))))))
    refine Go.step (X198.baloadBytes hx (j := (1 : Int32)) (v := (.int (nar .byte ((((jv.toUInt64 >>> ((0 : Int32) &&& 0x3f).toInt64.toUInt64).toInt64).toInt32).toInt8.toInt32)))) (by rw [e198]; exact Ar204.1) (State.isArrayOf_alike hZ.alike Ar204.2.1) Ar204.2.2 hin204 hat204 (g := (mkF m 128 #[.val (.int ik), .val (.int if_), .val (.int ix), .val (.long jv), .second, .val (.int ig), .val (.ref b172), .val (.ref b176), .val (.ref ar_194)] [(.int (1 : Int32)), (.ref ar_194)])) rfl rfl (hb hby at_128)) ?_
    show Go _ _ _ _ _ _ _ T198 (mkF m 129 #[.val (.int ik), .val (.int if_), .val (.int ix), .val (.long jv), .second, .val (.int ig), .val (.ref b172), .val (.ref b176), .val (.ref ar_194)] [(.int (nar .byte ((((jv.toUInt64 >>> ((0 : Int32) &&& 0x3f).toInt64.toUInt64).toInt64).toInt32).toInt8.toInt32)))])
    refine Go.step (fun _ k => XS.lloadN X198.here hx rfl (hb hby at_129) rfl k) ?_
    show Go _ _ _ _ _ _ _ T198 (mkF m 130 #[.val (.int ik), .val (.int if_), .val (.int ix), .val (.long jv), .second, .val (.int ig), .val (.ref b172), .val (.ref b176), .val (.ref ar_194)] [(.long jv), (.int (nar .byte ((((jv.toUInt64 >>> ((0 : Int32) &&& 0x3f).toInt64.toUInt64).toInt64).toInt32).toInt8.toInt32)))])
    refine Go.step (fun _ k => XS.l2i X198.here hx rfl (hb hby at_130) rfl k) ?_
    show Go _ _ _ _ _ _ _ T198 (mkF m 131 #[.val (.int ik), .val (.int if_), .val (.int ix), .val (.long jv), .second, .val (.int ig), .val (.ref b172), .val (.ref b176), .val (.ref ar_194)] [(.int (jv.toInt32)), (.int (nar .byte ((((jv.toUInt64 >>> ((0 : Int32) &&& 0x3f).toInt64.toUInt64).toInt64).toInt32).toInt8.toInt32)))])
    refine Go.step (fun _ k => XS.i2b X198.here hx rfl (hb hby at_131) rfl k) ?_
    show Go _ _ _ _ _ _ _ T198 (mkF m 132 #[.val (.int ik), .val (.int if_), .val (.int ix), .val (.long jv), .second, .val (.int ig), .val (.ref b172), .val (.ref b176), .val (.ref ar_194)] [(.int ((jv.toInt32).toInt8.toInt32)), (.int (nar .byte ((((jv.toUInt64 >>> ((0 : Int32) &&& 0x3f).toInt64.toUInt64).toInt64).toInt32).toInt8.toInt32)))])
    have hc132_205 : (nar .byte ((((jv.toUInt64 >>> ((0 : Int32) &&& 0x3f).toInt64.toUInt64).toInt64).toInt32).toInt8.toInt32)) = ((jv.toInt32).toInt8.toInt32) := ((own_i2b2 _).trans (by rw [own_sh0]))
    refine Go.step (fun _ k => XS.icmpNo X198.here hx rfl (hb hby at_132) rfl (teq hc132_205).2 k) ?_
    show Go _ _ _ _ _ _ _ T198 (mkF m 135 #[.val (.int ik), .val (.int if_), .val (.int ix), .val (.long jv), .second, .val (.int ig), .val (.ref b172), .val (.ref b176), .val (.ref ar_194)] [])
    refine Go.step (fun _ k => XS.aload X198.here hx rfl (hb hby at_135) rfl rfl k) ?_
    show Go _ _ _ _ _ _ _ T198 (mkF m 137 #[.val (.int ik), .val (.int if_), .val (.int ix), .val (.long jv), .second, .val (.int ig), .val (.ref b172), .val (.ref b176), .val (.ref ar_194)] [(.ref ar_194)])
    refine Go.step (fun _ k => XS.iconst X198.here hx rfl (hb hby at_137) k) ?_
    show Go _ _ _ _ _ _ _ T198 (mkF m 138 #[.val (.int ik), .val (.int if_), .val (.int ix), .val (.long jv), .second, .val (.int ig), .val (.ref b172), .val (.ref b176), .val (.ref ar_194)] [(.int (2 : Int32)), (.ref ar_194)])
    obtain ⟨cl206, Ar206, q206, S206, M206, H206, G206⟩ := id (V1_194)
    have hin206 : ¬ ((2 : Int32) < 0 ∨ cl206.slots.size ≤ ((2 : Int32)).toNatClampNeg) := inb_of S206 ⟨by decide, by decide⟩
    have hat206 : cl206.slots[((2 : Int32)).toNatClampNeg]? = some (.int (nar .byte ((((jv.toUInt64 >>> ((8 : Int32) &&& 0x3f).toInt64.toUInt64).toInt64).toInt32).toInt8.toInt32))) := H206.at hin206 ((pa_194 _ (by decide)).trans ((own_n (by decide)).trans ((own_n (by decide)).trans ((own_n (by decide)).trans ((own_n (by decide)).trans ((own_n (by decide)).trans ((own_n (by decide)).trans (own_g (by (try simp only [List.length_set]); exact Nat.lt_of_lt_of_le (by decide) (own_64 p6_181 pl_181))))))))))
    refine Go.step (X198.baloadBytes hx (j := (2 : Int32)) (v := (.int (nar .byte ((((jv.toUInt64 >>> ((8 : Int32) &&& 0x3f).toInt64.toUInt64).toInt64).toInt32).toInt8.toInt32)))) (by rw [e198]; exact Ar206.1) (State.isArrayOf_alike hZ.alike Ar206.2.1) Ar206.2.2 hin206 hat206 (g := (mkF m 138 #[.val (.int ik), .val (.int if_), .val (.int ix), .val (.long jv), .second, .val (.int ig), .val (.ref b172), .val (.ref b176), .val (.ref ar_194)] [(.int (2 : Int32)), (.ref ar_194)])) rfl rfl (hb hby at_138)) ?_
    show Go _ _ _ _ _ _ _ T198 (mkF m 139 #[.val (.int ik), .val (.int if_), .val (.int ix), .val (.long jv), .second, .val (.int ig), .val (.ref b172), .val (.ref b176), .val (.ref ar_194)] [(.int (nar .byte ((((jv.toUInt64 >>> ((8 : Int32) &&& 0x3f).toInt64.toUInt64).toInt64).toInt32).toInt8.toInt32)))])
    refine Go.step (fun _ k => XS.lloadN X198.here hx rfl (hb hby at_139) rfl k) ?_
    show Go _ _ _ _ _ _ _ T198 (mkF m 140 #[.val (.int ik), .val (.int if_), .val (.int ix), .val (.long jv), .second, .val (.int ig), .val (.ref b172), .val (.ref b176), .val (.ref ar_194)] [(.long jv), (.int (nar .byte ((((jv.toUInt64 >>> ((8 : Int32) &&& 0x3f).toInt64.toUInt64).toInt64).toInt32).toInt8.toInt32)))])
    refine Go.step (fun _ k => XS.bipush X198.here hx rfl (hb hby at_140) k) ?_
    show Go _ _ _ _ _ _ _ T198 (mkF m 142 #[.val (.int ik), .val (.int if_), .val (.int ix), .val (.long jv), .second, .val (.int ig), .val (.ref b172), .val (.ref b176), .val (.ref ar_194)] [(.int (8 : Int32)), (.long jv), (.int (nar .byte ((((jv.toUInt64 >>> ((8 : Int32) &&& 0x3f).toInt64.toUInt64).toInt64).toInt32).toInt8.toInt32)))])
    refine Go.step (fun _ k => XS.lushr X198.here hx rfl (hb hby at_142) rfl k) ?_
    show Go _ _ _ _ _ _ _ T198 (mkF m 143 #[.val (.int ik), .val (.int if_), .val (.int ix), .val (.long jv), .second, .val (.int ig), .val (.ref b172), .val (.ref b176), .val (.ref ar_194)] [(.long ((jv.toUInt64 >>> ((8 : Int32) &&& 0x3f).toInt64.toUInt64).toInt64)), (.int (nar .byte ((((jv.toUInt64 >>> ((8 : Int32) &&& 0x3f).toInt64.toUInt64).toInt64).toInt32).toInt8.toInt32)))])
    refine Go.step (fun _ k => XS.l2i X198.here hx rfl (hb hby at_143) rfl k) ?_
    show Go _ _ _ _ _ _ _ T198 (mkF m 144 #[.val (.int ik), .val (.int if_), .val (.int ix), .val (.long jv), .second, .val (.int ig), .val (.ref b172), .val (.ref b176), .val (.ref ar_194)] [(.int (((jv.toUInt64 >>> ((8 : Int32) &&& 0x3f).toInt64.toUInt64).toInt64).toInt32)), (.int (nar .byte ((((jv.toUInt64 >>> ((8 : Int32) &&& 0x3f).toInt64.toUInt64).toInt64).toInt32).toInt8.toInt32)))])
    refine Go.step (fun _ k => XS.i2b X198.here hx rfl (hb hby at_144) rfl k) ?_
    show Go _ _ _ _ _ _ _ T198 (mkF m 145 #[.val (.int ik), .val (.int if_), .val (.int ix), .val (.long jv), .second, .val (.int ig), .val (.ref b172), .val (.ref b176), .val (.ref ar_194)] [(.int ((((jv.toUInt64 >>> ((8 : Int32) &&& 0x3f).toInt64.toUInt64).toInt64).toInt32).toInt8.toInt32)), (.int (nar .byte ((((jv.toUInt64 >>> ((8 : Int32) &&& 0x3f).toInt64.toUInt64).toInt64).toInt32).toInt8.toInt32)))])
    have hc145_207 : (nar .byte ((((jv.toUInt64 >>> ((8 : Int32) &&& 0x3f).toInt64.toUInt64).toInt64).toInt32).toInt8.toInt32)) = ((((jv.toUInt64 >>> ((8 : Int32) &&& 0x3f).toInt64.toUInt64).toInt64).toInt32).toInt8.toInt32) := own_i2b2 _
    refine Go.step (fun _ k => XS.icmpNo X198.here hx rfl (hb hby at_145) rfl (teq hc145_207).2 k) ?_
    show Go _ _ _ _ _ _ _ T198 (mkF m 148 #[.val (.int ik), .val (.int if_), .val (.int ix), .val (.long jv), .second, .val (.int ig), .val (.ref b172), .val (.ref b176), .val (.ref ar_194)] [])
    refine Go.step (fun _ k => XS.aload X198.here hx rfl (hb hby at_148) rfl rfl k) ?_
    show Go _ _ _ _ _ _ _ T198 (mkF m 150 #[.val (.int ik), .val (.int if_), .val (.int ix), .val (.long jv), .second, .val (.int ig), .val (.ref b172), .val (.ref b176), .val (.ref ar_194)] [(.ref ar_194)])
    refine Go.step (fun _ k => XS.iconst X198.here hx rfl (hb hby at_150) k) ?_
    show Go _ _ _ _ _ _ _ T198 (mkF m 151 #[.val (.int ik), .val (.int if_), .val (.int ix), .val (.long jv), .second, .val (.int ig), .val (.ref b172), .val (.ref b176), .val (.ref ar_194)] [(.int (3 : Int32)), (.ref ar_194)])
    obtain ⟨cl208, Ar208, q208, S208, M208, H208, G208⟩ := id (V1_194)
    have hin208 : ¬ ((3 : Int32) < 0 ∨ cl208.slots.size ≤ ((3 : Int32)).toNatClampNeg) := inb_of S208 ⟨by decide, by decide⟩
    have hat208 : cl208.slots[((3 : Int32)).toNatClampNeg]? = some (.int (nar .byte ((((jv.toUInt64 >>> ((16 : Int32) &&& 0x3f).toInt64.toUInt64).toInt64).toInt32).toInt8.toInt32))) := H208.at hin208 ((pa_194 _ (by decide)).trans ((own_n (by decide)).trans ((own_n (by decide)).trans ((own_n (by decide)).trans ((own_n (by decide)).trans ((own_n (by decide)).trans (own_g (by (try simp only [List.length_set]); exact Nat.lt_of_lt_of_le (by decide) (own_64 p6_181 pl_181)))))))))
    refine Go.step (X198.baloadBytes hx (j := (3 : Int32)) (v := (.int (nar .byte ((((jv.toUInt64 >>> ((16 : Int32) &&& 0x3f).toInt64.toUInt64).toInt64).toInt32).toInt8.toInt32)))) (by rw [e198]; exact Ar208.1) (State.isArrayOf_alike hZ.alike Ar208.2.1) Ar208.2.2 hin208 hat208 (g := (mkF m 151 #[.val (.int ik), .val (.int if_), .val (.int ix), .val (.long jv), .second, .val (.int ig), .val (.ref b172), .val (.ref b176), .val (.ref ar_194)] [(.int (3 : Int32)), (.ref ar_194)])) rfl rfl (hb hby at_151)) ?_
    show Go _ _ _ _ _ _ _ T198 (mkF m 152 #[.val (.int ik), .val (.int if_), .val (.int ix), .val (.long jv), .second, .val (.int ig), .val (.ref b172), .val (.ref b176), .val (.ref ar_194)] [(.int (nar .byte ((((jv.toUInt64 >>> ((16 : Int32) &&& 0x3f).toInt64.toUInt64).toInt64).toInt32).toInt8.toInt32)))])
    refine Go.step (fun _ k => XS.lloadN X198.here hx rfl (hb hby at_152) rfl k) ?_
    show Go _ _ _ _ _ _ _ T198 (mkF m 153 #[.val (.int ik), .val (.int if_), .val (.int ix), .val (.long jv), .second, .val (.int ig), .val (.ref b172), .val (.ref b176), .val (.ref ar_194)] [(.long jv), (.int (nar .byte ((((jv.toUInt64 >>> ((16 : Int32) &&& 0x3f).toInt64.toUInt64).toInt64).toInt32).toInt8.toInt32)))])
    refine Go.step (fun _ k => XS.bipush X198.here hx rfl (hb hby at_153) k) ?_
    show Go _ _ _ _ _ _ _ T198 (mkF m 155 #[.val (.int ik), .val (.int if_), .val (.int ix), .val (.long jv), .second, .val (.int ig), .val (.ref b172), .val (.ref b176), .val (.ref ar_194)] [(.int (16 : Int32)), (.long jv), (.int (nar .byte ((((jv.toUInt64 >>> ((16 : Int32) &&& 0x3f).toInt64.toUInt64).toInt64).toInt32).toInt8.toInt32)))])
    refine Go.step (fun _ k => XS.lushr X198.here hx rfl (hb hby at_155) rfl k) ?_
    show Go _ _ _ _ _ _ _ T198 (mkF m 156 #[.val (.int ik), .val (.int if_), .val (.int ix), .val (.long jv), .second, .val (.int ig), .val (.ref b172), .val (.ref b176), .val (.ref ar_194)] [(.long ((jv.toUInt64 >>> ((16 : Int32) &&& 0x3f).toInt64.toUInt64).toInt64)), (.int (nar .byte ((((jv.toUInt64 >>> ((16 : Int32) &&& 0x3f).toInt64.toUInt64).toInt64).toInt32).toInt8.toInt32)))])
    refine Go.step (fun _ k => XS.l2i X198.here hx rfl (hb hby at_156) rfl k) ?_
    show Go _ _ _ _ _ _ _ T198 (mkF m 157 #[.val (.int ik), .val (.int if_), .val (.int ix), .val (.long jv), .second, .val (.int ig), .val (.ref b172), .val (.ref b176), .val (.ref ar_194)] [(.int (((jv.toUInt64 >>> ((16 : Int32) &&& 0x3f).toInt64.toUInt64).toInt64).toInt32)), (.int (nar .byte ((((jv.toUInt64 >>> ((16 : Int32) &&& 0x3f).toInt64.toUInt64).toInt64).toInt32).toInt8.toInt32)))])
    refine Go.step (fun _ k => XS.i2b X198.here hx rfl (hb hby at_157) rfl k) ?_
    show Go _ _ _ _ _ _ _ T198 (mkF m 158 #[.val (.int ik), .val (.int if_), .val (.int ix), .val (.long jv), .second, .val (.int ig), .val (.ref b172), .val (.ref b176), .val (.ref ar_194)] [(.int ((((jv.toUInt64 >>> ((16 : Int32) &&& 0x3f).toInt64.toUInt64).toInt64).toInt32).toInt8.toInt32)), (.int (nar .byte ((((jv.toUInt64 >>> ((16 : Int32) &&& 0x3f).toInt64.toUInt64).toInt64).toInt32).toInt8.toInt32)))])
    have hc158_209 : (nar .byte ((((jv.toUInt64 >>> ((16 : Int32) &&& 0x3f).toInt64.toUInt64).toInt64).toInt32).toInt8.toInt32)) = ((((jv.toUInt64 >>> ((16 : Int32) &&& 0x3f).toInt64.toUInt64).toInt64).toInt32).toInt8.toInt32) := own_i2b2 _
    refine Go.step (fun _ k => XS.icmpNo X198.here hx rfl (hb hby at_158) rfl (teq hc158_209).2 k) ?_
    show Go _ _ _ _ _ _ _ T198 (mkF m 161 #[.val (.int ik), .val (.int if_), .val (.int ix), .val (.long jv), .second, .val (.int ig), .val (.ref b172), .val (.ref b176), .val (.ref ar_194)] [])
    refine Go.step (fun _ k => XS.aload X198.here hx rfl (hb hby at_161) rfl rfl k) ?_
    show Go _ _ _ _ _ _ _ T198 (mkF m 163 #[.val (.int ik), .val (.int if_), .val (.int ix), .val (.long jv), .second, .val (.int ig), .val (.ref b172), .val (.ref b176), .val (.ref ar_194)] [(.ref ar_194)])
    refine Go.step (fun _ k => XS.iconst X198.here hx rfl (hb hby at_163) k) ?_
    show Go _ _ _ _ _ _ _ T198 (mkF m 164 #[.val (.int ik), .val (.int if_), .val (.int ix), .val (.long jv), .second, .val (.int ig), .val (.ref b172), .val (.ref b176), .val (.ref ar_194)] [(.int (4 : Int32)), (.ref ar_194)])
    obtain ⟨cl210, Ar210, q210, S210, M210, H210, G210⟩ := id (V1_194)
    have hin210 : ¬ ((4 : Int32) < 0 ∨ cl210.slots.size ≤ ((4 : Int32)).toNatClampNeg) := inb_of S210 ⟨by decide, by decide⟩
    have hat210 : cl210.slots[((4 : Int32)).toNatClampNeg]? = some (.int (nar .byte ((((jv.toUInt64 >>> ((24 : Int32) &&& 0x3f).toInt64.toUInt64).toInt64).toInt32).toInt8.toInt32))) := H210.at hin210 ((pa_194 _ (by decide)).trans ((own_n (by decide)).trans ((own_n (by decide)).trans ((own_n (by decide)).trans ((own_n (by decide)).trans (own_g (by (try simp only [List.length_set]); exact Nat.lt_of_lt_of_le (by decide) (own_64 p6_181 pl_181))))))))
    refine Go.step (X198.baloadBytes hx (j := (4 : Int32)) (v := (.int (nar .byte ((((jv.toUInt64 >>> ((24 : Int32) &&& 0x3f).toInt64.toUInt64).toInt64).toInt32).toInt8.toInt32)))) (by rw [e198]; exact Ar210.1) (State.isArrayOf_alike hZ.alike Ar210.2.1) Ar210.2.2 hin210 hat210 (g := (mkF m 164 #[.val (.int ik), .val (.int if_), .val (.int ix), .val (.long jv), .second, .val (.int ig), .val (.ref b172), .val (.ref b176), .val (.ref ar_194)] [(.int (4 : Int32)), (.ref ar_194)])) rfl rfl (hb hby at_164)) ?_
    show Go _ _ _ _ _ _ _ T198 (mkF m 165 #[.val (.int ik), .val (.int if_), .val (.int ix), .val (.long jv), .second, .val (.int ig), .val (.ref b172), .val (.ref b176), .val (.ref ar_194)] [(.int (nar .byte ((((jv.toUInt64 >>> ((24 : Int32) &&& 0x3f).toInt64.toUInt64).toInt64).toInt32).toInt8.toInt32)))])
    refine Go.step (fun _ k => XS.lloadN X198.here hx rfl (hb hby at_165) rfl k) ?_
    show Go _ _ _ _ _ _ _ T198 (mkF m 166 #[.val (.int ik), .val (.int if_), .val (.int ix), .val (.long jv), .second, .val (.int ig), .val (.ref b172), .val (.ref b176), .val (.ref ar_194)] [(.long jv), (.int (nar .byte ((((jv.toUInt64 >>> ((24 : Int32) &&& 0x3f).toInt64.toUInt64).toInt64).toInt32).toInt8.toInt32)))])
    refine Go.step (fun _ k => XS.bipush X198.here hx rfl (hb hby at_166) k) ?_
    show Go _ _ _ _ _ _ _ T198 (mkF m 168 #[.val (.int ik), .val (.int if_), .val (.int ix), .val (.long jv), .second, .val (.int ig), .val (.ref b172), .val (.ref b176), .val (.ref ar_194)] [(.int (24 : Int32)), (.long jv), (.int (nar .byte ((((jv.toUInt64 >>> ((24 : Int32) &&& 0x3f).toInt64.toUInt64).toInt64).toInt32).toInt8.toInt32)))])
    refine Go.step (fun _ k => XS.lushr X198.here hx rfl (hb hby at_168) rfl k) ?_
    show Go _ _ _ _ _ _ _ T198 (mkF m 169 #[.val (.int ik), .val (.int if_), .val (.int ix), .val (.long jv), .second, .val (.int ig), .val (.ref b172), .val (.ref b176), .val (.ref ar_194)] [(.long ((jv.toUInt64 >>> ((24 : Int32) &&& 0x3f).toInt64.toUInt64).toInt64)), (.int (nar .byte ((((jv.toUInt64 >>> ((24 : Int32) &&& 0x3f).toInt64.toUInt64).toInt64).toInt32).toInt8.toInt32)))])
    refine Go.step (fun _ k => XS.l2i X198.here hx rfl (hb hby at_169) rfl k) ?_
    show Go _ _ _ _ _ _ _ T198 (mkF m 170 #[.val (.int ik), .val (.int if_), .val (.int ix), .val (.long jv), .second, .val (.int ig), .val (.ref b172), .val (.ref b176), .val (.ref ar_194)] [(.int (((jv.toUInt64 >>> ((24 : Int32) &&& 0x3f).toInt64.toUInt64).toInt64).toInt32)), (.int (nar .byte ((((jv.toUInt64 >>> ((24 : Int32) &&& 0x3f).toInt64.toUInt64).toInt64).toInt32).toInt8.toInt32)))])
    refine Go.step (fun _ k => XS.i2b X198.here hx rfl (hb hby at_170) rfl k) ?_
    show Go _ _ _ _ _ _ _ T198 (mkF m 171 #[.val (.int ik), .val (.int if_), .val (.int ix), .val (.long jv), .second, .val (.int ig), .val (.ref b172), .val (.ref b176), .val (.ref ar_194)] [(.int ((((jv.toUInt64 >>> ((24 : Int32) &&& 0x3f).toInt64.toUInt64).toInt64).toInt32).toInt8.toInt32)), (.int (nar .byte ((((jv.toUInt64 >>> ((24 : Int32) &&& 0x3f).toInt64.toUInt64).toInt64).toInt32).toInt8.toInt32)))])
    have hc171_211 : (nar .byte ((((jv.toUInt64 >>> ((24 : Int32) &&& 0x3f).toInt64.toUInt64).toInt64).toInt32).toInt8.toInt32)) = ((((jv.toUInt64 >>> ((24 : Int32) &&& 0x3f).toInt64.toUInt64).toInt64).toInt32).toInt8.toInt32) := own_i2b2 _
    refine Go.step (fun _ k => XS.icmpNo X198.here hx rfl (hb hby at_171) rfl (teq hc171_211).2 k) ?_
    show Go _ _ _ _ _ _ _ T198 (mkF m 174 #[.val (.int ik), .val (.int if_), .val (.int ix), .val (.long jv), .second, .val (.int ig), .val (.ref b172), .val (.ref b176), .val (.ref ar_194)] [])
    refine Go.step (fun _ k => XS.aload X198.here hx rfl (hb hby at_174) rfl rfl k) ?_
    show Go _ _ _ _ _ _ _ T198 (mkF m 176 #[.val (.int ik), .val (.int if_), .val (.int ix), .val (.long jv), .second, .val (.int ig), .val (.ref b172), .val (.ref b176), .val (.ref ar_194)] [(.ref ar_194)])
    refine Go.step (fun _ k => XS.iconst X198.here hx rfl (hb hby at_176) k) ?_
    show Go _ _ _ _ _ _ _ T198 (mkF m 177 #[.val (.int ik), .val (.int if_), .val (.int ix), .val (.long jv), .second, .val (.int ig), .val (.ref b172), .val (.ref b176), .val (.ref ar_194)] [(.int (5 : Int32)), (.ref ar_194)])
    obtain ⟨cl212, Ar212, q212, S212, M212, H212, G212⟩ := id (V1_194)
    have hin212 : ¬ ((5 : Int32) < 0 ∨ cl212.slots.size ≤ ((5 : Int32)).toNatClampNeg) := inb_of S212 ⟨by decide, by decide⟩
    have hat212 : cl212.slots[((5 : Int32)).toNatClampNeg]? = some (.int (nar .byte ((((jv.toUInt64 >>> ((32 : Int32) &&& 0x3f).toInt64.toUInt64).toInt64).toInt32).toInt8.toInt32))) := H212.at hin212 ((pa_194 _ (by decide)).trans ((own_n (by decide)).trans ((own_n (by decide)).trans ((own_n (by decide)).trans (own_g (by (try simp only [List.length_set]); exact Nat.lt_of_lt_of_le (by decide) (own_64 p6_181 pl_181)))))))
    refine Go.step (X198.baloadBytes hx (j := (5 : Int32)) (v := (.int (nar .byte ((((jv.toUInt64 >>> ((32 : Int32) &&& 0x3f).toInt64.toUInt64).toInt64).toInt32).toInt8.toInt32)))) (by rw [e198]; exact Ar212.1) (State.isArrayOf_alike hZ.alike Ar212.2.1) Ar212.2.2 hin212 hat212 (g := (mkF m 177 #[.val (.int ik), .val (.int if_), .val (.int ix), .val (.long jv), .second, .val (.int ig), .val (.ref b172), .val (.ref b176), .val (.ref ar_194)] [(.int (5 : Int32)), (.ref ar_194)])) rfl rfl (hb hby at_177)) ?_
    show Go _ _ _ _ _ _ _ T198 (mkF m 178 #[.val (.int ik), .val (.int if_), .val (.int ix), .val (.long jv), .second, .val (.int ig), .val (.ref b172), .val (.ref b176), .val (.ref ar_194)] [(.int (nar .byte ((((jv.toUInt64 >>> ((32 : Int32) &&& 0x3f).toInt64.toUInt64).toInt64).toInt32).toInt8.toInt32)))])
    refine Go.step (fun _ k => XS.lloadN X198.here hx rfl (hb hby at_178) rfl k) ?_
    show Go _ _ _ _ _ _ _ T198 (mkF m 179 #[.val (.int ik), .val (.int if_), .val (.int ix), .val (.long jv), .second, .val (.int ig), .val (.ref b172), .val (.ref b176), .val (.ref ar_194)] [(.long jv), (.int (nar .byte ((((jv.toUInt64 >>> ((32 : Int32) &&& 0x3f).toInt64.toUInt64).toInt64).toInt32).toInt8.toInt32)))])
    refine Go.step (fun _ k => XS.bipush X198.here hx rfl (hb hby at_179) k) ?_
    show Go _ _ _ _ _ _ _ T198 (mkF m 181 #[.val (.int ik), .val (.int if_), .val (.int ix), .val (.long jv), .second, .val (.int ig), .val (.ref b172), .val (.ref b176), .val (.ref ar_194)] [(.int (32 : Int32)), (.long jv), (.int (nar .byte ((((jv.toUInt64 >>> ((32 : Int32) &&& 0x3f).toInt64.toUInt64).toInt64).toInt32).toInt8.toInt32)))])
    refine Go.step (fun _ k => XS.lushr X198.here hx rfl (hb hby at_181) rfl k) ?_
    show Go _ _ _ _ _ _ _ T198 (mkF m 182 #[.val (.int ik), .val (.int if_), .val (.int ix), .val (.long jv), .second, .val (.int ig), .val (.ref b172), .val (.ref b176), .val (.ref ar_194)] [(.long ((jv.toUInt64 >>> ((32 : Int32) &&& 0x3f).toInt64.toUInt64).toInt64)), (.int (nar .byte ((((jv.toUInt64 >>> ((32 : Int32) &&& 0x3f).toInt64.toUInt64).toInt64).toInt32).toInt8.toInt32)))])
    refine Go.step (fun _ k => XS.l2i X198.here hx rfl (hb hby at_182) rfl k) ?_
    show Go _ _ _ _ _ _ _ T198 (mkF m 183 #[.val (.int ik), .val (.int if_), .val (.int ix), .val (.long jv), .second, .val (.int ig), .val (.ref b172), .val (.ref b176), .val (.ref ar_194)] [(.int (((jv.toUInt64 >>> ((32 : Int32) &&& 0x3f).toInt64.toUInt64).toInt64).toInt32)), (.int (nar .byte ((((jv.toUInt64 >>> ((32 : Int32) &&& 0x3f).toInt64.toUInt64).toInt64).toInt32).toInt8.toInt32)))])
    refine Go.step (fun _ k => XS.i2b X198.here hx rfl (hb hby at_183) rfl k) ?_
    show Go _ _ _ _ _ _ _ T198 (mkF m 184 #[.val (.int ik), .val (.int if_), .val (.int ix), .val (.long jv), .second, .val (.int ig), .val (.ref b172), .val (.ref b176), .val (.ref ar_194)] [(.int ((((jv.toUInt64 >>> ((32 : Int32) &&& 0x3f).toInt64.toUInt64).toInt64).toInt32).toInt8.toInt32)), (.int (nar .byte ((((jv.toUInt64 >>> ((32 : Int32) &&& 0x3f).toInt64.toUInt64).toInt64).toInt32).toInt8.toInt32)))])
    have hc184_213 : (nar .byte ((((jv.toUInt64 >>> ((32 : Int32) &&& 0x3f).toInt64.toUInt64).toInt64).toInt32).toInt8.toInt32)) = ((((jv.toUInt64 >>> ((32 : Int32) &&& 0x3f).toInt64.toUInt64).toInt64).toInt32).toInt8.toInt32) := own_i2b2 _
    refine Go.step (fun _ k => XS.icmpNo X198.here hx rfl (hb hby at_184) rfl (teq hc184_213).2 k) ?_
    show Go _ _ _ _ _ _ _ T198 (mkF m 187 #[.val (.int ik), .val (.int if_), .val (.int ix), .val (.long jv), .second, .val (.int ig), .val (.ref b172), .val (.ref b176), .val (.ref ar_194)] [])
    refine Go.step (fun _ k => XS.aload X198.here hx rfl (hb hby at_187) rfl rfl k) ?_
    show Go _ _ _ _ _ _ _ T198 (mkF m 189 #[.val (.int ik), .val (.int if_), .val (.int ix), .val (.long jv), .second, .val (.int ig), .val (.ref b172), .val (.ref b176), .val (.ref ar_194)] [(.ref ar_194)])
    refine Go.step (fun _ k => XS.bipush X198.here hx rfl (hb hby at_189) k) ?_
    show Go _ _ _ _ _ _ _ T198 (mkF m 191 #[.val (.int ik), .val (.int if_), .val (.int ix), .val (.long jv), .second, .val (.int ig), .val (.ref b172), .val (.ref b176), .val (.ref ar_194)] [(.int (6 : Int32)), (.ref ar_194)])
    obtain ⟨cl214, Ar214, q214, S214, M214, H214, G214⟩ := id (V1_194)
    have hin214 : ¬ ((6 : Int32) < 0 ∨ cl214.slots.size ≤ ((6 : Int32)).toNatClampNeg) := inb_of S214 ⟨by decide, by decide⟩
    have hat214 : cl214.slots[((6 : Int32)).toNatClampNeg]? = some (.int (nar .byte ((((jv.toUInt64 >>> ((40 : Int32) &&& 0x3f).toInt64.toUInt64).toInt64).toInt32).toInt8.toInt32))) := H214.at hin214 ((pa_194 _ (by decide)).trans ((own_n (by decide)).trans ((own_n (by decide)).trans (own_g (by (try simp only [List.length_set]); exact Nat.lt_of_lt_of_le (by decide) (own_64 p6_181 pl_181))))))
    refine Go.step (X198.baloadBytes hx (j := (6 : Int32)) (v := (.int (nar .byte ((((jv.toUInt64 >>> ((40 : Int32) &&& 0x3f).toInt64.toUInt64).toInt64).toInt32).toInt8.toInt32)))) (by rw [e198]; exact Ar214.1) (State.isArrayOf_alike hZ.alike Ar214.2.1) Ar214.2.2 hin214 hat214 (g := (mkF m 191 #[.val (.int ik), .val (.int if_), .val (.int ix), .val (.long jv), .second, .val (.int ig), .val (.ref b172), .val (.ref b176), .val (.ref ar_194)] [(.int (6 : Int32)), (.ref ar_194)])) rfl rfl (hb hby at_191)) ?_
    show Go _ _ _ _ _ _ _ T198 (mkF m 192 #[.val (.int ik), .val (.int if_), .val (.int ix), .val (.long jv), .second, .val (.int ig), .val (.ref b172), .val (.ref b176), .val (.ref ar_194)] [(.int (nar .byte ((((jv.toUInt64 >>> ((40 : Int32) &&& 0x3f).toInt64.toUInt64).toInt64).toInt32).toInt8.toInt32)))])
    refine Go.step (fun _ k => XS.lloadN X198.here hx rfl (hb hby at_192) rfl k) ?_
    show Go _ _ _ _ _ _ _ T198 (mkF m 193 #[.val (.int ik), .val (.int if_), .val (.int ix), .val (.long jv), .second, .val (.int ig), .val (.ref b172), .val (.ref b176), .val (.ref ar_194)] [(.long jv), (.int (nar .byte ((((jv.toUInt64 >>> ((40 : Int32) &&& 0x3f).toInt64.toUInt64).toInt64).toInt32).toInt8.toInt32)))])
    refine Go.step (fun _ k => XS.bipush X198.here hx rfl (hb hby at_193) k) ?_
    show Go _ _ _ _ _ _ _ T198 (mkF m 195 #[.val (.int ik), .val (.int if_), .val (.int ix), .val (.long jv), .second, .val (.int ig), .val (.ref b172), .val (.ref b176), .val (.ref ar_194)] [(.int (40 : Int32)), (.long jv), (.int (nar .byte ((((jv.toUInt64 >>> ((40 : Int32) &&& 0x3f).toInt64.toUInt64).toInt64).toInt32).toInt8.toInt32)))])
    refine Go.step (fun _ k => XS.lushr X198.here hx rfl (hb hby at_195) rfl k) ?_
    show Go _ _ _ _ _ _ _ T198 (mkF m 196 #[.val (.int ik), .val (.int if_), .val (.int ix), .val (.long jv), .second, .val (.int ig), .val (.ref b172), .val (.ref b176), .val (.ref ar_194)] [(.long ((jv.toUInt64 >>> ((40 : Int32) &&& 0x3f).toInt64.toUInt64).toInt64)), (.int (nar .byte ((((jv.toUInt64 >>> ((40 : Int32) &&& 0x3f).toInt64.toUInt64).toInt64).toInt32).toInt8.toInt32)))])
    refine Go.step (fun _ k => XS.l2i X198.here hx rfl (hb hby at_196) rfl k) ?_
    show Go _ _ _ _ _ _ _ T198 (mkF m 197 #[.val (.int ik), .val (.int if_), .val (.int ix), .val (.long jv), .second, .val (.int ig), .val (.ref b172), .val (.ref b176), .val (.ref ar_194)] [(.int (((jv.toUInt64 >>> ((40 : Int32) &&& 0x3f).toInt64.toUInt64).toInt64).toInt32)), (.int (nar .byte ((((jv.toUInt64 >>> ((40 : Int32) &&& 0x3f).toInt64.toUInt64).toInt64).toInt32).toInt8.toInt32)))])
    refine Go.step (fun _ k => XS.i2b X198.here hx rfl (hb hby at_197) rfl k) ?_
    show Go _ _ _ _ _ _ _ T198 (mkF m 198 #[.val (.int ik), .val (.int if_), .val (.int ix), .val (.long jv), .second, .val (.int ig), .val (.ref b172), .val (.ref b176), .val (.ref ar_194)] [(.int ((((jv.toUInt64 >>> ((40 : Int32) &&& 0x3f).toInt64.toUInt64).toInt64).toInt32).toInt8.toInt32)), (.int (nar .byte ((((jv.toUInt64 >>> ((40 : Int32) &&& 0x3f).toInt64.toUInt64).toInt64).toInt32).toInt8.toInt32)))])
    have hc198_215 : (nar .byte ((((jv.toUInt64 >>> ((40 : Int32) &&& 0x3f).toInt64.toUInt64).toInt64).toInt32).toInt8.toInt32)) = ((((jv.toUInt64 >>> ((40 : Int32) &&& 0x3f).toInt64.toUInt64).toInt64).toInt32).toInt8.toInt32) := own_i2b2 _
    refine Go.step (fun _ k => XS.icmpNo X198.here hx rfl (hb hby at_198) rfl (teq hc198_215).2 k) ?_
    show Go _ _ _ _ _ _ _ T198 (mkF m 201 #[.val (.int ik), .val (.int if_), .val (.int ix), .val (.long jv), .second, .val (.int ig), .val (.ref b172), .val (.ref b176), .val (.ref ar_194)] [])
    refine Go.step (fun _ k => XS.aload X198.here hx rfl (hb hby at_201) rfl rfl k) ?_
    show Go _ _ _ _ _ _ _ T198 (mkF m 203 #[.val (.int ik), .val (.int if_), .val (.int ix), .val (.long jv), .second, .val (.int ig), .val (.ref b172), .val (.ref b176), .val (.ref ar_194)] [(.ref ar_194)])
    refine Go.step (fun _ k => XS.bipush X198.here hx rfl (hb hby at_203) k) ?_
    show Go _ _ _ _ _ _ _ T198 (mkF m 205 #[.val (.int ik), .val (.int if_), .val (.int ix), .val (.long jv), .second, .val (.int ig), .val (.ref b172), .val (.ref b176), .val (.ref ar_194)] [(.int (7 : Int32)), (.ref ar_194)])
    obtain ⟨cl216, Ar216, q216, S216, M216, H216, G216⟩ := id (V1_194)
    have hin216 : ¬ ((7 : Int32) < 0 ∨ cl216.slots.size ≤ ((7 : Int32)).toNatClampNeg) := inb_of S216 ⟨by decide, by decide⟩
    have hat216 : cl216.slots[((7 : Int32)).toNatClampNeg]? = some (.int (nar .byte ((((jv.toUInt64 >>> ((48 : Int32) &&& 0x3f).toInt64.toUInt64).toInt64).toInt32).toInt8.toInt32))) := H216.at hin216 ((pa_194 _ (by decide)).trans ((own_n (by decide)).trans (own_g (by (try simp only [List.length_set]); exact Nat.lt_of_lt_of_le (by decide) (own_64 p6_181 pl_181)))))
    refine Go.step (X198.baloadBytes hx (j := (7 : Int32)) (v := (.int (nar .byte ((((jv.toUInt64 >>> ((48 : Int32) &&& 0x3f).toInt64.toUInt64).toInt64).toInt32).toInt8.toInt32)))) (by rw [e198]; exact Ar216.1) (State.isArrayOf_alike hZ.alike Ar216.2.1) Ar216.2.2 hin216 hat216 (g := (mkF m 205 #[.val (.int ik), .val (.int if_), .val (.int ix), .val (.long jv), .second, .val (.int ig), .val (.ref b172), .val (.ref b176), .val (.ref ar_194)] [(.int (7 : Int32)), (.ref ar_194)])) rfl rfl (hb hby at_205)) ?_
    show Go _ _ _ _ _ _ _ T198 (mkF m 206 #[.val (.int ik), .val (.int if_), .val (.int ix), .val (.long jv), .second, .val (.int ig), .val (.ref b172), .val (.ref b176), .val (.ref ar_194)] [(.int (nar .byte ((((jv.toUInt64 >>> ((48 : Int32) &&& 0x3f).toInt64.toUInt64).toInt64).toInt32).toInt8.toInt32)))])
    refine Go.step (fun _ k => XS.lloadN X198.here hx rfl (hb hby at_206) rfl k) ?_
    show Go _ _ _ _ _ _ _ T198 (mkF m 207 #[.val (.int ik), .val (.int if_), .val (.int ix), .val (.long jv), .second, .val (.int ig), .val (.ref b172), .val (.ref b176), .val (.ref ar_194)] [(.long jv), (.int (nar .byte ((((jv.toUInt64 >>> ((48 : Int32) &&& 0x3f).toInt64.toUInt64).toInt64).toInt32).toInt8.toInt32)))])
    refine Go.step (fun _ k => XS.bipush X198.here hx rfl (hb hby at_207) k) ?_
    show Go _ _ _ _ _ _ _ T198 (mkF m 209 #[.val (.int ik), .val (.int if_), .val (.int ix), .val (.long jv), .second, .val (.int ig), .val (.ref b172), .val (.ref b176), .val (.ref ar_194)] [(.int (48 : Int32)), (.long jv), (.int (nar .byte ((((jv.toUInt64 >>> ((48 : Int32) &&& 0x3f).toInt64.toUInt64).toInt64).toInt32).toInt8.toInt32)))])
    refine Go.step (fun _ k => XS.lushr X198.here hx rfl (hb hby at_209) rfl k) ?_
    show Go _ _ _ _ _ _ _ T198 (mkF m 210 #[.val (.int ik), .val (.int if_), .val (.int ix), .val (.long jv), .second, .val (.int ig), .val (.ref b172), .val (.ref b176), .val (.ref ar_194)] [(.long ((jv.toUInt64 >>> ((48 : Int32) &&& 0x3f).toInt64.toUInt64).toInt64)), (.int (nar .byte ((((jv.toUInt64 >>> ((48 : Int32) &&& 0x3f).toInt64.toUInt64).toInt64).toInt32).toInt8.toInt32)))])
    refine Go.step (fun _ k => XS.l2i X198.here hx rfl (hb hby at_210) rfl k) ?_
    show Go _ _ _ _ _ _ _ T198 (mkF m 211 #[.val (.int ik), .val (.int if_), .val (.int ix), .val (.long jv), .second, .val (.int ig), .val (.ref b172), .val (.ref b176), .val (.ref ar_194)] [(.int (((jv.toUInt64 >>> ((48 : Int32) &&& 0x3f).toInt64.toUInt64).toInt64).toInt32)), (.int (nar .byte ((((jv.toUInt64 >>> ((48 : Int32) &&& 0x3f).toInt64.toUInt64).toInt64).toInt32).toInt8.toInt32)))])
    refine Go.step (fun _ k => XS.i2b X198.here hx rfl (hb hby at_211) rfl k) ?_
    show Go _ _ _ _ _ _ _ T198 (mkF m 212 #[.val (.int ik), .val (.int if_), .val (.int ix), .val (.long jv), .second, .val (.int ig), .val (.ref b172), .val (.ref b176), .val (.ref ar_194)] [(.int ((((jv.toUInt64 >>> ((48 : Int32) &&& 0x3f).toInt64.toUInt64).toInt64).toInt32).toInt8.toInt32)), (.int (nar .byte ((((jv.toUInt64 >>> ((48 : Int32) &&& 0x3f).toInt64.toUInt64).toInt64).toInt32).toInt8.toInt32)))])
    have hc212_217 : (nar .byte ((((jv.toUInt64 >>> ((48 : Int32) &&& 0x3f).toInt64.toUInt64).toInt64).toInt32).toInt8.toInt32)) = ((((jv.toUInt64 >>> ((48 : Int32) &&& 0x3f).toInt64.toUInt64).toInt64).toInt32).toInt8.toInt32) := own_i2b2 _
    refine Go.step (fun _ k => XS.icmpNo X198.here hx rfl (hb hby at_212) rfl (teq hc212_217).2 k) ?_
    show Go _ _ _ _ _ _ _ T198 (mkF m 215 #[.val (.int ik), .val (.int if_), .val (.int ix), .val (.long jv), .second, .val (.int ig), .val (.ref b172), .val (.ref b176), .val (.ref ar_194)] [])
    refine Go.step (fun _ k => XS.aload X198.here hx rfl (hb hby at_215) rfl rfl k) ?_
    show Go _ _ _ _ _ _ _ T198 (mkF m 217 #[.val (.int ik), .val (.int if_), .val (.int ix), .val (.long jv), .second, .val (.int ig), .val (.ref b172), .val (.ref b176), .val (.ref ar_194)] [(.ref ar_194)])
    refine Go.step (fun _ k => XS.bipush X198.here hx rfl (hb hby at_217) k) ?_
    show Go _ _ _ _ _ _ _ T198 (mkF m 219 #[.val (.int ik), .val (.int if_), .val (.int ix), .val (.long jv), .second, .val (.int ig), .val (.ref b172), .val (.ref b176), .val (.ref ar_194)] [(.int (8 : Int32)), (.ref ar_194)])
    obtain ⟨cl218, Ar218, q218, S218, M218, H218, G218⟩ := id (V1_194)
    have hin218 : ¬ ((8 : Int32) < 0 ∨ cl218.slots.size ≤ ((8 : Int32)).toNatClampNeg) := inb_of S218 ⟨by decide, by decide⟩
    have hat218 : cl218.slots[((8 : Int32)).toNatClampNeg]? = some (.int (nar .byte ((((jv.toUInt64 >>> ((56 : Int32) &&& 0x3f).toInt64.toUInt64).toInt64).toInt32).toInt8.toInt32))) := H218.at hin218 ((pa_194 _ (by decide)).trans (own_g (by (try simp only [List.length_set]); exact Nat.lt_of_lt_of_le (by decide) (own_64 p6_181 pl_181))))
    refine Go.step (X198.baloadBytes hx (j := (8 : Int32)) (v := (.int (nar .byte ((((jv.toUInt64 >>> ((56 : Int32) &&& 0x3f).toInt64.toUInt64).toInt64).toInt32).toInt8.toInt32)))) (by rw [e198]; exact Ar218.1) (State.isArrayOf_alike hZ.alike Ar218.2.1) Ar218.2.2 hin218 hat218 (g := (mkF m 219 #[.val (.int ik), .val (.int if_), .val (.int ix), .val (.long jv), .second, .val (.int ig), .val (.ref b172), .val (.ref b176), .val (.ref ar_194)] [(.int (8 : Int32)), (.ref ar_194)])) rfl rfl (hb hby at_219)) ?_
    show Go _ _ _ _ _ _ _ T198 (mkF m 220 #[.val (.int ik), .val (.int if_), .val (.int ix), .val (.long jv), .second, .val (.int ig), .val (.ref b172), .val (.ref b176), .val (.ref ar_194)] [(.int (nar .byte ((((jv.toUInt64 >>> ((56 : Int32) &&& 0x3f).toInt64.toUInt64).toInt64).toInt32).toInt8.toInt32)))])
    refine Go.step (fun _ k => XS.lloadN X198.here hx rfl (hb hby at_220) rfl k) ?_
    show Go _ _ _ _ _ _ _ T198 (mkF m 221 #[.val (.int ik), .val (.int if_), .val (.int ix), .val (.long jv), .second, .val (.int ig), .val (.ref b172), .val (.ref b176), .val (.ref ar_194)] [(.long jv), (.int (nar .byte ((((jv.toUInt64 >>> ((56 : Int32) &&& 0x3f).toInt64.toUInt64).toInt64).toInt32).toInt8.toInt32)))])
    refine Go.step (fun _ k => XS.bipush X198.here hx rfl (hb hby at_221) k) ?_
    show Go _ _ _ _ _ _ _ T198 (mkF m 223 #[.val (.int ik), .val (.int if_), .val (.int ix), .val (.long jv), .second, .val (.int ig), .val (.ref b172), .val (.ref b176), .val (.ref ar_194)] [(.int (56 : Int32)), (.long jv), (.int (nar .byte ((((jv.toUInt64 >>> ((56 : Int32) &&& 0x3f).toInt64.toUInt64).toInt64).toInt32).toInt8.toInt32)))])
    refine Go.step (fun _ k => XS.lushr X198.here hx rfl (hb hby at_223) rfl k) ?_
    show Go _ _ _ _ _ _ _ T198 (mkF m 224 #[.val (.int ik), .val (.int if_), .val (.int ix), .val (.long jv), .second, .val (.int ig), .val (.ref b172), .val (.ref b176), .val (.ref ar_194)] [(.long ((jv.toUInt64 >>> ((56 : Int32) &&& 0x3f).toInt64.toUInt64).toInt64)), (.int (nar .byte ((((jv.toUInt64 >>> ((56 : Int32) &&& 0x3f).toInt64.toUInt64).toInt64).toInt32).toInt8.toInt32)))])
    refine Go.step (fun _ k => XS.l2i X198.here hx rfl (hb hby at_224) rfl k) ?_
    show Go _ _ _ _ _ _ _ T198 (mkF m 225 #[.val (.int ik), .val (.int if_), .val (.int ix), .val (.long jv), .second, .val (.int ig), .val (.ref b172), .val (.ref b176), .val (.ref ar_194)] [(.int (((jv.toUInt64 >>> ((56 : Int32) &&& 0x3f).toInt64.toUInt64).toInt64).toInt32)), (.int (nar .byte ((((jv.toUInt64 >>> ((56 : Int32) &&& 0x3f).toInt64.toUInt64).toInt64).toInt32).toInt8.toInt32)))])
    refine Go.step (fun _ k => XS.i2b X198.here hx rfl (hb hby at_225) rfl k) ?_
    show Go _ _ _ _ _ _ _ T198 (mkF m 226 #[.val (.int ik), .val (.int if_), .val (.int ix), .val (.long jv), .second, .val (.int ig), .val (.ref b172), .val (.ref b176), .val (.ref ar_194)] [(.int ((((jv.toUInt64 >>> ((56 : Int32) &&& 0x3f).toInt64.toUInt64).toInt64).toInt32).toInt8.toInt32)), (.int (nar .byte ((((jv.toUInt64 >>> ((56 : Int32) &&& 0x3f).toInt64.toUInt64).toInt64).toInt32).toInt8.toInt32)))])
    have hc226_219 : (nar .byte ((((jv.toUInt64 >>> ((56 : Int32) &&& 0x3f).toInt64.toUInt64).toInt64).toInt32).toInt8.toInt32)) = ((((jv.toUInt64 >>> ((56 : Int32) &&& 0x3f).toInt64.toUInt64).toInt64).toInt32).toInt8.toInt32) := own_i2b2 _
    refine Go.step (fun _ k => XS.icmpNo X198.here hx rfl (hb hby at_226) rfl (teq hc226_219).2 k) ?_
    show Go _ _ _ _ _ _ _ T198 (mkF m 229 #[.val (.int ik), .val (.int if_), .val (.int ix), .val (.long jv), .second, .val (.int ig), .val (.ref b172), .val (.ref b176), .val (.ref ar_194)] [])
    refine Go.step (fun _ k => XS.iconst X198.here hx rfl (hb hby at_229) k) ?_
    show Go _ _ _ _ _ _ _ T198 (mkF m 230 #[.val (.int ik), .val (.int if_), .val (.int ix), .val (.long jv), .second, .val (.int ig), .val (.ref b172), .val (.ref b176), .val (.ref ar_194)] [(.int (1 : Int32))])
    refine Go.step (fun _ k => XS.goto X198.here hx rfl (pc0 := 230) (pc' := 234) rfl (hb hby at_230) (by decide) (by decide) k) ?_
    show Go _ _ _ _ _ _ _ T198 (mkF m 234 #[.val (.int ik), .val (.int if_), .val (.int ix), .val (.long jv), .second, .val (.int ig), .val (.ref b172), .val (.ref b176), .val (.ref ar_194)] [(.int (1 : Int32))])
    exact Go.retN X198 hx (t := .boolean) hret hlk (by simp) (hb hby at_234) e198 (by decide) (by decide) ⟨rfl, N198, trivial⟩
  · refine Go.step (fun _ k => XS.ifNo X179.here hx rfl (hb hby at_38) rfl ((if0 _ _).trans (feq hc38_180).1) k) ?_
    show Go _ _ _ _ _ _ _ T179 (mkF m 41 #[.val (.int ik), .val (.int if_), .val (.int ix), .val (.long jv), .second, .val (.int ig), .val (.ref b172), .val (.ref b176), .unset] [])
    refine Go.step (fun _ k => XS.aload X179.here hx rfl (hb hby at_41) rfl rfl k) ?_
    show Go _ _ _ _ _ _ _ T179 (mkF m 43 #[.val (.int ik), .val (.int if_), .val (.int ix), .val (.long jv), .second, .val (.int ig), .val (.ref b172), .val (.ref b176), .unset] [(.ref b176)])
    refine Go.step (fun _ k => XS.aload X179.here hx rfl (hb hby at_43) rfl rfl k) ?_
    show Go _ _ _ _ _ _ _ T179 (mkF m 45 #[.val (.int ik), .val (.int if_), .val (.int ix), .val (.long jv), .second, .val (.int ig), .val (.ref b172), .val (.ref b176), .unset] [(.ref b172), (.ref b176)])
    have f221 : Arv Z h179 b172 k172 .byte (100 : Int32) (((List.replicate 100 (.int (0 : Int32))).set 0 (.int (nar .byte (if_.toInt8.toInt32)))).set 99 (.int (nar .byte (ix.toInt8.toInt32)))) (.int (0 : Int32)) := ((f178.keep Kq177 (ninS ne_b172_b176 nin0)).keep Kq179 (ninS ne_b172_b176 (ninS ne_b172_ab_177 nin0)))
    obtain ⟨cq220, kq220, q220a, q220b, q220c⟩ := isOf hZ e179 E1_179
    obtain ⟨_, _, ⟨T220, L220, k220, n220⟩, -, X220, ⟨Lc220, hQ220, l220, y220, z220⟩, st220⟩ := X179.virtualBack hx (y := (⟨"com/example/stitchwire/stitchwire/Output", "writeBytes", "([B)V"⟩ : MethodName)) (z := (⟨"com/example/stitchwire/stitchwire/Output", "writeBytes", "([B)V"⟩ : MethodName)) hown (mvT hZ (hw _ (List.mem_of_getElem? (i := 59) rfl))) (mvT hZ (hw _ (List.mem_of_getElem? (i := 60) rfl))) (notFace_of_selects (args := #[]) (mvT hZ (hw _ (List.mem_of_getElem? (i := 62) rfl)))) (mvT hZ (hw _ (List.mem_of_getElem? (i := 62) rfl))) (mvT hZ (hw _ (List.mem_of_getElem? (i := 61) rfl))) (by decide) (backOf (W := 0) (rmWs l Z a0 hw [] b176 b172 ab_177 kb_177 ((List.replicate 64 (.int (0 : Int32))).set (0 : Int32).toNatClampNeg (.int (nar .byte if_.toInt8.toInt32))) k172 (((List.replicate 100 (.int (0 : Int32))).set 0 (.int (nar .byte (if_.toInt8.toInt32)))).set 99 (.int (nar .byte (ix.toInt8.toInt32)))) h179 n0 Z179 E1_179 Fb1_179 Fs1_179 V1_179 g_b176 ne_b176_ab_177 (by simp only [List.length_set, List.length_replicate]; rfl) g_ab_177 f221 (Ne.symm ne_b172_b176) (Ne.symm ne_b172_ab_177)) hZ (hw _ (List.mem_of_getElem? (i := 63) rfl)) (hw _ (List.mem_of_getElem? (i := 3) rfl)) (by decide) (by decide)) q220a q220c (g := (mkF m 45 #[.val (.int ik), .val (.int if_), .val (.int ix), .val (.long jv), .second, .val (.int ig), .val (.ref b172), .val (.ref b176), .unset] [(.ref b172), (.ref b176)])) rfl (by rw [hml]; rfl) (Steps.refl _) (argsL := [(.ref b172)]) (rest := []) (lenOf pd___B_V rfl) rfl (by show 2 * 0 + _ ≤ _; exact Nat.le_of_eq rfl) (hb hby at_45) (fun _ _ => ⟨rfl, e179, (by decide : 3 + 1 ≤ _), (by decide : 166 + 128 ≤ _)⟩)
    dsimp only [Pt.U, Pt.locs, Pt.cells, Pt.slots] at X220 l220 y220 z220 st220 hQ220
    subst l220 y220 z220
    obtain ⟨h220, e220⟩ : ∃ h, T220.heap = h := ⟨_, rfl⟩
    rw [e220] at hQ220
    obtain ⟨aq_220, kq_220, vq_220, rfl, Nq220, Kq220, sz__220, E1_220, Fb1_220, Fs1_220, V1_220, pl_220⟩ := hQ220
    have N220 := Fr.app N179 Nq220
    have Z220 : n0 ≤ h220.size := Nat.le_trans Z179 Kq220.1
    have g_aq_220 : n0 ≤ aq_220 := Nat.le_trans Z179 sz__220
    have ne_ab_177_aq_220 : ab_177 ≠ aq_220 := Nat.ne_of_lt (Nat.lt_of_lt_of_le V1_179.lt sz__220)
    have ne_b172_aq_220 : b172 ≠ aq_220 := Nat.ne_of_lt (Nat.lt_of_lt_of_le f221.lt sz__220)
    have ne_b176_aq_220 : b176 ≠ aq_220 := Nat.ne_of_lt (Nat.lt_of_lt_of_le E1_179.lt sz__220)
    refine Go.trans st220 ?_
    show Go _ _ _ _ _ _ _ T220 (mkF m 48 #[.val (.int ik), .val (.int if_), .val (.int ix), .val (.long jv), .second, .val (.int ig), .val (.ref b172), .val (.ref b176), .unset] [])
    refine Go.step (fun _ k => XS.aload X220.here hx rfl (hb hby at_48) rfl rfl k) ?_
    show Go _ _ _ _ _ _ _ T220 (mkF m 50 #[.val (.int ik), .val (.int if_), .val (.int ix), .val (.long jv), .second, .val (.int ig), .val (.ref b172), .val (.ref b176), .unset] [(.ref b176)])
    refine Go.step (fun _ k => XS.iloadN X220.here hx rfl (hb hby at_50) rfl k) ?_
    show Go _ _ _ _ _ _ _ T220 (mkF m 51 #[.val (.int ik), .val (.int if_), .val (.int ix), .val (.long jv), .second, .val (.int ig), .val (.ref b172), .val (.ref b176), .unset] [(.int ik), (.ref b176)])
    obtain ⟨cq222, kq222, q222a, q222b, q222c⟩ := isOf hZ e220 E1_220
    obtain ⟨_, _, ⟨T222, L222, k222, n222⟩, -, X222, ⟨Lc222, hQ222, l222, y222, z222⟩, st222⟩ := X220.virtualBack hx (y := (⟨"com/example/stitchwire/stitchwire/Output", "clear", "(I)V"⟩ : MethodName)) (z := (⟨"com/example/stitchwire/stitchwire/Output", "clear", "(I)V"⟩ : MethodName)) hown (mvT hZ (hw _ (List.mem_of_getElem? (i := 23) rfl))) (mvT hZ (hw _ (List.mem_of_getElem? (i := 24) rfl))) (notFace_of_selects (args := #[]) (mvT hZ (hw _ (List.mem_of_getElem? (i := 26) rfl)))) (mvT hZ (hw _ (List.mem_of_getElem? (i := 26) rfl))) (mvT hZ (hw _ (List.mem_of_getElem? (i := 25) rfl))) (by decide) (backOf (W := 0) (rmCl l Z a0 hw [] b176 ik aq_220 kq_220 (128 : Int32) (101 : Int32) vq_220 h220 n0 Z220 E1_220 Fb1_220 Fs1_220 V1_220 g_b176 g_aq_220 ne_b176_aq_220 pl_220 (by decide)) hZ (hw _ (List.mem_of_getElem? (i := 27) rfl)) (hw _ (List.mem_of_getElem? (i := 3) rfl)) (by decide) (by decide)) q222a q222c (g := (mkF m 51 #[.val (.int ik), .val (.int if_), .val (.int ix), .val (.long jv), .second, .val (.int ig), .val (.ref b172), .val (.ref b176), .unset] [(.int ik), (.ref b176)])) rfl (by rw [hml]; rfl) (Steps.refl _) (argsL := [(.int ik)]) (rest := []) (lenOf pd__I_V rfl) rfl (by show 2 * 0 + _ ≤ _; exact Nat.le_of_eq rfl) (hb hby at_51) (fun _ _ => ⟨rfl, e220, (by decide : 4 + 1 ≤ _), (by decide : 294 + 64 ≤ _)⟩)
    dsimp only [Pt.U, Pt.locs, Pt.cells, Pt.slots] at X222 l222 y222 z222 st222 hQ222
    subst l222 y222 z222
    obtain ⟨h222, e222⟩ : ∃ h, T222.heap = h := ⟨_, rfl⟩
    rw [e222] at hQ222
    have f223 : Arv Z h220 ab_177 kb_177 .byte (64 : Int32) ((List.replicate 64 (.int (0 : Int32))).set (0 : Int32).toNatClampNeg (.int (nar .byte if_.toInt8.toInt32))) (.int (0 : Int32)) := (V1_179.keep Kq220 (ninS (Ne.symm ne_b176_ab_177) nin0))
    have f224 : Arv Z h220 b172 k172 .byte (100 : Int32) (((List.replicate 100 (.int (0 : Int32))).set 0 (.int (nar .byte (if_.toInt8.toInt32)))).set 99 (.int (nar .byte (ix.toInt8.toInt32)))) (.int (0 : Int32)) := (f221.keep Kq220 (ninS ne_b172_b176 nin0))
    obtain ⟨aq_222, kq_222, nq_222, vq_222, rfl, Nq222, Kq222, pg_222, pn_222, E1_222, Fb1_222, Fs1_222, V1_222, pl_222, p6_222⟩ := hQ222
    have N222 := Fr.app N220 Nq222
    have Z222 : n0 ≤ h222.size := Nat.le_trans Z220 Kq222.1
    refine Go.trans st222 ?_
    show Go _ _ _ _ _ _ _ T222 (mkF m 54 #[.val (.int ik), .val (.int if_), .val (.int ix), .val (.long jv), .second, .val (.int ig), .val (.ref b172), .val (.ref b176), .unset] [])
    refine Go.step (fun _ k => XS.aload X222.here hx rfl (hb hby at_54) rfl rfl k) ?_
    show Go _ _ _ _ _ _ _ T222 (mkF m 56 #[.val (.int ik), .val (.int if_), .val (.int ix), .val (.long jv), .second, .val (.int ig), .val (.ref b172), .val (.ref b176), .unset] [(.ref b176)])
    obtain ⟨cq225, kq225, q225a, q225b, q225c⟩ := isOf hZ e222 E1_222
    obtain ⟨_, _, ⟨T225, L225, k225, n225⟩, -, X225, ⟨Lc225, hQ225, l225, y225, z225⟩, st225⟩ := X222.virtualBack hx (y := (⟨"com/example/stitchwire/stitchwire/Output", "size", "()I"⟩ : MethodName)) (z := (⟨"com/example/stitchwire/stitchwire/Output", "size", "()I"⟩ : MethodName)) hown (mvT hZ (hw _ (List.mem_of_getElem? (i := 28) rfl))) (mvT hZ (hw _ (List.mem_of_getElem? (i := 29) rfl))) (notFace_of_selects (args := #[]) (mvT hZ (hw _ (List.mem_of_getElem? (i := 31) rfl)))) (mvT hZ (hw _ (List.mem_of_getElem? (i := 31) rfl))) (mvT hZ (hw _ (List.mem_of_getElem? (i := 30) rfl))) (by decide) (backOf (W := 0) (rmSi l Z a0 hw [] b176 (0 : Int32) h222 n0 Z222 E1_222 Fs1_222) hZ (hw _ (List.mem_of_getElem? (i := 32) rfl)) (hw _ (List.mem_of_getElem? (i := 3) rfl)) (by decide) (by decide)) q225a q225c (g := (mkF m 56 #[.val (.int ik), .val (.int if_), .val (.int ix), .val (.long jv), .second, .val (.int ig), .val (.ref b172), .val (.ref b176), .unset] [(.ref b176)])) rfl (by rw [hml]; rfl) (Steps.refl _) (argsL := []) (rest := []) (lenOf pd___I rfl) rfl (by show 2 * 0 + _ ≤ _; exact Nat.le_of_eq rfl) (hb hby at_56) (fun _ _ => ⟨rfl, e222, (by decide : 5 + 0 ≤ _), (by decide : 358 + 0 ≤ _)⟩)
    dsimp only [Pt.U, Pt.locs, Pt.cells, Pt.slots] at X225 l225 y225 z225 st225 hQ225
    subst l225 y225 z225
    obtain ⟨h225, e225⟩ : ∃ h, T225.heap = h := ⟨_, rfl⟩
    rw [e225] at hQ225
    obtain ⟨rfl, Nq225, hs225⟩ := hQ225
    have N225 := Fr.app N222 Nq225
    rw [hs225] at e225
    refine Go.trans st225 ?_
    show Go _ _ _ _ _ _ _ T225 (mkF m 59 #[.val (.int ik), .val (.int if_), .val (.int ix), .val (.long jv), .second, .val (.int ig), .val (.ref b172), .val (.ref b176), .unset] [(.int (0 : Int32))])
    have hc59_226 : (0 : Int32) = (0 : Int32) := (by decide)
    refine Go.step (fun _ k => XS.ifYes X225.here hx rfl (pc0 := 59) (pc' := 64) rfl (hb hby at_59) rfl ((if0 _ _).trans (teq hc59_226).1) (by decide) (by decide) k) ?_
    show Go _ _ _ _ _ _ _ T225 (mkF m 64 #[.val (.int ik), .val (.int if_), .val (.int ix), .val (.long jv), .second, .val (.int ig), .val (.ref b172), .val (.ref b176), .unset] [])
    refine Go.step (fun _ k => XS.aload X225.here hx rfl (hb hby at_64) rfl rfl k) ?_
    show Go _ _ _ _ _ _ _ T225 (mkF m 66 #[.val (.int ik), .val (.int if_), .val (.int ix), .val (.long jv), .second, .val (.int ig), .val (.ref b172), .val (.ref b176), .unset] [(.ref b176)])
    obtain ⟨cq227, kq227, q227a, q227b, q227c⟩ := isOf hZ e225 E1_222
    obtain ⟨_, _, ⟨T227, L227, k227, n227⟩, -, X227, ⟨Lc227, hQ227, l227, y227, z227⟩, st227⟩ := X225.virtualBack hx (y := (⟨"com/example/stitchwire/stitchwire/Output", "toByteArray", "()[B"⟩ : MethodName)) (z := (⟨"com/example/stitchwire/stitchwire/Output", "toByteArray", "()[B"⟩ : MethodName)) hown (mvT hZ (hw _ (List.mem_of_getElem? (i := 33) rfl))) (mvT hZ (hw _ (List.mem_of_getElem? (i := 34) rfl))) (notFace_of_selects (args := #[]) (mvT hZ (hw _ (List.mem_of_getElem? (i := 36) rfl)))) (mvT hZ (hw _ (List.mem_of_getElem? (i := 36) rfl))) (mvT hZ (hw _ (List.mem_of_getElem? (i := 35) rfl))) (by decide) (backOf (W := 0) (rmTb l Z a0 hw [] b176 aq_222 kq_222 nq_222 (0 : Int32) vq_222 h222 n0 Z222 E1_222 Fb1_222 Fs1_222 V1_222 pl_222 (by decide) (by have := rng32 nq_222; have : (0 : Int32).toInt = 0 := rfl; have : (16 : Int32).toInt = 16 := rfl; have : (64 : Int32).toInt = 64 := rfl; have q6 := p6_222; simp only [Int32.lt_iff_toInt_lt, Int32.le_iff_toInt_le, ← Int32.toInt_inj, Int64.lt_iff_toInt_lt, Int64.le_iff_toInt_le, ← Int64.toInt_inj] at q6 ⊢; omega) (by decide)) hZ (hw _ (List.mem_of_getElem? (i := 37) rfl)) (hw _ (List.mem_of_getElem? (i := 3) rfl)) (by decide) (by decide)) q227a q227c (g := (mkF m 66 #[.val (.int ik), .val (.int if_), .val (.int ix), .val (.long jv), .second, .val (.int ig), .val (.ref b172), .val (.ref b176), .unset] [(.ref b176)])) rfl (by rw [hml]; rfl) (Steps.refl _) (argsL := []) (rest := []) (lenOf pd____B rfl) rfl (by show 2 * 0 + _ ≤ _; exact Nat.le_of_eq rfl) (hb hby at_66) (fun _ _ => ⟨rfl, e225, (by decide : 5 + 1 ≤ _), (by decide : 358 + 16 ≤ _)⟩)
    dsimp only [Pt.U, Pt.locs, Pt.cells, Pt.slots] at X227 l227 y227 z227 st227 hQ227
    subst l227 y227 z227
    obtain ⟨h227, e227⟩ : ∃ h, T227.heap = h := ⟨_, rfl⟩
    rw [e227] at hQ227
    obtain ⟨ar_227, kr_227, vr_227, rfl, Nq227, Kq227, sz__227, V1_227, pl_227, pa_227⟩ := hQ227
    have N227 := Fr.app N225 Nq227
    have Z227 : n0 ≤ h227.size := Nat.le_trans Z222 Kq227.1
    have g_ar_227 : n0 ≤ ar_227 := Nat.le_trans Z222 sz__227
    have ne_aq_222_ar_227 : aq_222 ≠ ar_227 := Nat.ne_of_lt (Nat.lt_of_lt_of_le V1_222.lt sz__227)
    have ne_b176_ar_227 : b176 ≠ ar_227 := Nat.ne_of_lt (Nat.lt_of_lt_of_le E1_222.lt sz__227)
    refine Go.trans st227 ?_
    show Go _ _ _ _ _ _ _ T227 (mkF m 69 #[.val (.int ik), .val (.int if_), .val (.int ix), .val (.long jv), .second, .val (.int ig), .val (.ref b172), .val (.ref b176), .unset] [(.ref ar_227)])
    obtain ⟨cl228, Ar228, -, S228, M228, -, -⟩ := id (V1_227)
    have al228 := X227.arraylength hx (by rw [e227]; exact Ar228.1) (State.isArrayOf_alike hZ.alike Ar228.2.1) (g := (mkF m 69 #[.val (.int ik), .val (.int if_), .val (.int ix), .val (.long jv), .second, .val (.int ig), .val (.ref b172), .val (.ref b176), .unset] [(.ref ar_227)])) rfl rfl (hb hby at_69)
    rw [len_of S228 M228] at al228
    refine Go.step al228 ?_
    show Go _ _ _ _ _ _ _ T227 (mkF m 70 #[.val (.int ik), .val (.int if_), .val (.int ix), .val (.long jv), .second, .val (.int ig), .val (.ref b172), .val (.ref b176), .unset] [(.int (0 : Int32))])
    have hc70_229 : (0 : Int32) = (0 : Int32) := (by decide)
    refine Go.step (fun _ k => XS.ifYes X227.here hx rfl (pc0 := 70) (pc' := 75) rfl (hb hby at_70) rfl ((if0 _ _).trans (teq hc70_229).1) (by decide) (by decide) k) ?_
    show Go _ _ _ _ _ _ _ T227 (mkF m 75 #[.val (.int ik), .val (.int if_), .val (.int ix), .val (.long jv), .second, .val (.int ig), .val (.ref b172), .val (.ref b176), .unset] [])
    refine Go.step (fun _ k => XS.aload X227.here hx rfl (hb hby at_75) rfl rfl k) ?_
    show Go _ _ _ _ _ _ _ T227 (mkF m 77 #[.val (.int ik), .val (.int if_), .val (.int ix), .val (.long jv), .second, .val (.int ig), .val (.ref b172), .val (.ref b176), .unset] [(.ref b176)])
    refine Go.step (fun _ k => XS.iloadN X227.here hx rfl (hb hby at_77) rfl k) ?_
    show Go _ _ _ _ _ _ _ T227 (mkF m 78 #[.val (.int ik), .val (.int if_), .val (.int ix), .val (.long jv), .second, .val (.int ig), .val (.ref b172), .val (.ref b176), .unset] [(.int ix), (.ref b176)])
    have f231 : Exa Z h227 b176 "com/example/stitchwire/stitchwire/Output" := (E1_222.keep Kq227)
    have f232 : Fld Z h227 b176 "com/example/stitchwire/stitchwire/Output" "buffer" "[B" (.ref aq_222) := (Fb1_222.keep Kq227 nin0)
    have f233 : Fld Z h227 b176 "com/example/stitchwire/stitchwire/Output" "size" "I" (.int (0 : Int32)) := (Fs1_222.keep Kq227 nin0)
    have f234 : Arv Z h227 aq_222 kq_222 .byte nq_222 vq_222 (.int (0 : Int32)) := (V1_222.keep Kq227 nin0)
    obtain ⟨cq230, kq230, q230a, q230b, q230c⟩ := isOf hZ e227 f231
    obtain ⟨_, _, ⟨T230, L230, k230, n230⟩, -, X230, ⟨Lc230, hQ230, l230, y230, z230⟩, st230⟩ := X227.virtualBack hx (y := (⟨"com/example/stitchwire/stitchwire/Output", "writeByte", "(I)V"⟩ : MethodName)) (z := (⟨"com/example/stitchwire/stitchwire/Output", "writeByte", "(I)V"⟩ : MethodName)) hown (mvT hZ (hw _ (List.mem_of_getElem? (i := 12) rfl))) (mvT hZ (hw _ (List.mem_of_getElem? (i := 13) rfl))) (notFace_of_selects (args := #[]) (mvT hZ (hw _ (List.mem_of_getElem? (i := 15) rfl)))) (mvT hZ (hw _ (List.mem_of_getElem? (i := 15) rfl))) (mvT hZ (hw _ (List.mem_of_getElem? (i := 14) rfl))) (by decide) (backOf (W := 0) (rmWb l Z a0 hw [] b176 ix aq_222 kq_222 nq_222 (0 : Int32) vq_222 h227 n0 Z227 f231 f232 f233 f234 g_b176 pg_222 pn_222 pl_222 (by have := rng32 nq_222; have : (0 : Int32).toInt = 0 := rfl; have := rng32 (nq_222 - (0 : Int32)); have := c_isub nq_222 (0 : Int32); have : (1 : Int32).toInt = 1 := rfl; have : (64 : Int32).toInt = 64 := rfl; have q6 := p6_222; simp only [Int32.lt_iff_toInt_lt, Int32.le_iff_toInt_le, ← Int32.toInt_inj, Int64.lt_iff_toInt_lt, Int64.le_iff_toInt_le, ← Int64.toInt_inj] at q6 ⊢; omega) (by decide) (by have := rng32 nq_222; have : (0 : Int32).toInt = 0 := rfl; have := rng32 (nq_222 - (0 : Int32)); have := c_isub nq_222 (0 : Int32); have : (1 : Int32).toInt = 1 := rfl; have : (64 : Int32).toInt = 64 := rfl; have q6 := p6_222; simp only [Int32.lt_iff_toInt_lt, Int32.le_iff_toInt_le, ← Int32.toInt_inj, Int64.lt_iff_toInt_lt, Int64.le_iff_toInt_le, ← Int64.toInt_inj] at q6 ⊢; omega)) hZ (hw _ (List.mem_of_getElem? (i := 16) rfl)) (hw _ (List.mem_of_getElem? (i := 3) rfl)) (by decide) (by decide)) q230a q230c (g := (mkF m 78 #[.val (.int ik), .val (.int if_), .val (.int ix), .val (.long jv), .second, .val (.int ig), .val (.ref b172), .val (.ref b176), .unset] [(.int ix), (.ref b176)])) rfl (by rw [hml]; rfl) (Steps.refl _) (argsL := [(.int ix)]) (rest := []) (lenOf pd__I_V rfl) rfl (by show 2 * 0 + _ ≤ _; exact Nat.le_of_eq rfl) (hb hby at_78) (fun _ _ => ⟨rfl, e227, (by decide : 6 + 0 ≤ _), (by decide : 374 + 0 ≤ _)⟩)
    dsimp only [Pt.U, Pt.locs, Pt.cells, Pt.slots] at X230 l230 y230 z230 st230 hQ230
    subst l230 y230 z230
    obtain ⟨h230, e230⟩ : ∃ h, T230.heap = h := ⟨_, rfl⟩
    rw [e230] at hQ230
    obtain ⟨rfl, Nq230, Kq230, E1_230, Fb1_230, Fs1_230, V1_230⟩ := hQ230
    have N230 := Fr.app N227 Nq230
    have Z230 : n0 ≤ h230.size := Nat.le_trans Z227 Kq230.1
    have Fs1_230 : Fld Z h230 b176 "com/example/stitchwire/stitchwire/Output" "size" "I" (.int (1 : Int32)) := Fs1_230
    refine Go.trans st230 ?_
    show Go _ _ _ _ _ _ _ T230 (mkF m 81 #[.val (.int ik), .val (.int if_), .val (.int ix), .val (.long jv), .second, .val (.int ig), .val (.ref b172), .val (.ref b176), .unset] [])
    refine Go.step (fun _ k => XS.aload X230.here hx rfl (hb hby at_81) rfl rfl k) ?_
    show Go _ _ _ _ _ _ _ T230 (mkF m 83 #[.val (.int ik), .val (.int if_), .val (.int ix), .val (.long jv), .second, .val (.int ig), .val (.ref b172), .val (.ref b176), .unset] [(.ref b176)])
    refine Go.step (fun _ k => XS.lloadN X230.here hx rfl (hb hby at_83) rfl k) ?_
    show Go _ _ _ _ _ _ _ T230 (mkF m 84 #[.val (.int ik), .val (.int if_), .val (.int ix), .val (.long jv), .second, .val (.int ig), .val (.ref b172), .val (.ref b176), .unset] [(.long jv), (.ref b176)])
    obtain ⟨cq235, kq235, q235a, q235b, q235c⟩ := isOf hZ e230 E1_230
    obtain ⟨_, _, ⟨T235, L235, k235, n235⟩, -, X235, ⟨Lc235, hQ235, l235, y235, z235⟩, st235⟩ := X230.virtualBack hx (y := (⟨"com/example/stitchwire/stitchwire/Output", "writeFixed64", "(J)V"⟩ : MethodName)) (z := (⟨"com/example/stitchwire/stitchwire/Output", "writeFixed64", "(J)V"⟩ : MethodName)) hown (mvT hZ (hw _ (List.mem_of_getElem? (i := 50) rfl))) (mvT hZ (hw _ (List.mem_of_getElem? (i := 51) rfl))) (notFace_of_selects (args := #[]) (mvT hZ (hw _ (List.mem_of_getElem? (i := 53) rfl)))) (mvT hZ (hw _ (List.mem_of_getElem? (i := 53) rfl))) (mvT hZ (hw _ (List.mem_of_getElem? (i := 52) rfl))) (by decide) (backOf (W := 0) (rmF8 l Z a0 hw [] b176 jv aq_222 kq_222 nq_222 (vq_222.set (0 : Int32).toNatClampNeg (.int (nar .byte ix.toInt8.toInt32))) h230 n0 Z230 E1_230 Fb1_230 Fs1_230 V1_230 g_b176 pg_222 pn_222 (by simp only [List.length_set]; exact pl_222) p6_222 (by have := rng32 nq_222; have : (1 : Int32).toInt = 1 := rfl; have := rng32 (nq_222 - (1 : Int32)); have := c_isub nq_222 (1 : Int32); have : (8 : Int32).toInt = 8 := rfl; have : (64 : Int32).toInt = 64 := rfl; have q6 := p6_222; simp only [Int32.lt_iff_toInt_lt, Int32.le_iff_toInt_le, ← Int32.toInt_inj, Int64.lt_iff_toInt_lt, Int64.le_iff_toInt_le, ← Int64.toInt_inj] at q6 ⊢; omega)) hZ (hw _ (List.mem_of_getElem? (i := 54) rfl)) (hw _ (List.mem_of_getElem? (i := 3) rfl)) (by decide) (by decide)) q235a q235c (g := (mkF m 84 #[.val (.int ik), .val (.int if_), .val (.int ix), .val (.long jv), .second, .val (.int ig), .val (.ref b172), .val (.ref b176), .unset] [(.long jv), (.ref b176)])) rfl (by rw [hml]; rfl) (Steps.refl _) (argsL := [(.long jv)]) (rest := []) (lenOf pd__J_V rfl) rfl (by show 2 * 0 + _ ≤ _; exact Nat.le_of_eq rfl) (hb hby at_84) (fun _ _ => ⟨rfl, e230, (by decide : 6 + 0 ≤ _), (by decide : 374 + 0 ≤ _)⟩)
    dsimp only [Pt.U, Pt.locs, Pt.cells, Pt.slots] at X235 l235 y235 z235 st235 hQ235
    subst l235 y235 z235
    obtain ⟨h235, e235⟩ : ∃ h, T235.heap = h := ⟨_, rfl⟩
    rw [e235] at hQ235
    obtain ⟨rfl, Nq235, Kq235, E1_235, Fb1_235, Fs1_235, V1_235⟩ := hQ235
    have N235 := Fr.app N230 Nq235
    have Z235 : n0 ≤ h235.size := Nat.le_trans Z230 Kq235.1
    refine Go.trans st235 ?_
    show Go _ _ _ _ _ _ _ T235 (mkF m 87 #[.val (.int ik), .val (.int if_), .val (.int ix), .val (.long jv), .second, .val (.int ig), .val (.ref b172), .val (.ref b176), .unset] [])
    refine Go.step (fun _ k => XS.aload X235.here hx rfl (hb hby at_87) rfl rfl k) ?_
    show Go _ _ _ _ _ _ _ T235 (mkF m 89 #[.val (.int ik), .val (.int if_), .val (.int ix), .val (.long jv), .second, .val (.int ig), .val (.ref b172), .val (.ref b176), .unset] [(.ref b176)])
    obtain ⟨cq236, kq236, q236a, q236b, q236c⟩ := isOf hZ e235 E1_235
    obtain ⟨_, _, ⟨T236, L236, k236, n236⟩, -, X236, ⟨Lc236, hQ236, l236, y236, z236⟩, st236⟩ := X235.virtualBack hx (y := (⟨"com/example/stitchwire/stitchwire/Output", "toByteArray", "()[B"⟩ : MethodName)) (z := (⟨"com/example/stitchwire/stitchwire/Output", "toByteArray", "()[B"⟩ : MethodName)) hown (mvT hZ (hw _ (List.mem_of_getElem? (i := 33) rfl))) (mvT hZ (hw _ (List.mem_of_getElem? (i := 34) rfl))) (notFace_of_selects (args := #[]) (mvT hZ (hw _ (List.mem_of_getElem? (i := 36) rfl)))) (mvT hZ (hw _ (List.mem_of_getElem? (i := 36) rfl))) (mvT hZ (hw _ (List.mem_of_getElem? (i := 35) rfl))) (by decide) (backOf (W := 0) (rmTb l Z a0 hw [] b176 aq_222 kq_222 nq_222 (9 : Int32) (((((((((vq_222.set (0 : Int32).toNatClampNeg (.int (nar .byte ix.toInt8.toInt32))).set 1 (.int (nar .byte ((((jv.toUInt64 >>> ((0 : Int32) &&& 0x3f).toInt64.toUInt64).toInt64).toInt32).toInt8.toInt32)))).set 2 (.int (nar .byte ((((jv.toUInt64 >>> ((8 : Int32) &&& 0x3f).toInt64.toUInt64).toInt64).toInt32).toInt8.toInt32)))).set 3 (.int (nar .byte ((((jv.toUInt64 >>> ((16 : Int32) &&& 0x3f).toInt64.toUInt64).toInt64).toInt32).toInt8.toInt32)))).set 4 (.int (nar .byte ((((jv.toUInt64 >>> ((24 : Int32) &&& 0x3f).toInt64.toUInt64).toInt64).toInt32).toInt8.toInt32)))).set 5 (.int (nar .byte ((((jv.toUInt64 >>> ((32 : Int32) &&& 0x3f).toInt64.toUInt64).toInt64).toInt32).toInt8.toInt32)))).set 6 (.int (nar .byte ((((jv.toUInt64 >>> ((40 : Int32) &&& 0x3f).toInt64.toUInt64).toInt64).toInt32).toInt8.toInt32)))).set 7 (.int (nar .byte ((((jv.toUInt64 >>> ((48 : Int32) &&& 0x3f).toInt64.toUInt64).toInt64).toInt32).toInt8.toInt32)))).set 8 (.int (nar .byte ((((jv.toUInt64 >>> ((56 : Int32) &&& 0x3f).toInt64.toUInt64).toInt64).toInt32).toInt8.toInt32)))) h235 n0 Z235 E1_235 Fb1_235 Fs1_235 V1_235 (by simp only [List.length_set]; exact pl_222) (by decide) (by have := rng32 nq_222; have : (9 : Int32).toInt = 9 := rfl; have : (0 : Int32).toInt = 0 := rfl; have : (16 : Int32).toInt = 16 := rfl; have : (64 : Int32).toInt = 64 := rfl; have q6 := p6_222; simp only [Int32.lt_iff_toInt_lt, Int32.le_iff_toInt_le, ← Int32.toInt_inj, Int64.lt_iff_toInt_lt, Int64.le_iff_toInt_le, ← Int64.toInt_inj] at q6 ⊢; omega) (by decide)) hZ (hw _ (List.mem_of_getElem? (i := 37) rfl)) (hw _ (List.mem_of_getElem? (i := 3) rfl)) (by decide) (by decide)) q236a q236c (g := (mkF m 89 #[.val (.int ik), .val (.int if_), .val (.int ix), .val (.long jv), .second, .val (.int ig), .val (.ref b172), .val (.ref b176), .unset] [(.ref b176)])) rfl (by rw [hml]; rfl) (Steps.refl _) (argsL := []) (rest := []) (lenOf pd____B rfl) rfl (by show 2 * 0 + _ ≤ _; exact Nat.le_of_eq rfl) (hb hby at_89) (fun _ _ => ⟨rfl, e235, (by decide : 6 + 1 ≤ _), (by decide : 374 + 16 ≤ _)⟩)
    dsimp only [Pt.U, Pt.locs, Pt.cells, Pt.slots] at X236 l236 y236 z236 st236 hQ236
    subst l236 y236 z236
    obtain ⟨h236, e236⟩ : ∃ h, T236.heap = h := ⟨_, rfl⟩
    rw [e236] at hQ236
    have f237 : Arv Z h235 ar_227 kr_227 .byte (0 : Int32) vr_227 (.int (0 : Int32)) := ((V1_227.keep Kq230 (ninS (Ne.symm ne_b176_ar_227) (ninS (Ne.symm ne_aq_222_ar_227) nin0))).keep Kq235 (ninS (Ne.symm ne_b176_ar_227) (ninS (Ne.symm ne_aq_222_ar_227) nin0)))
    obtain ⟨ar_236, kr_236, vr_236, rfl, Nq236, Kq236, sz__236, V1_236, pl_236, pa_236⟩ := hQ236
    have N236 := Fr.app N235 Nq236
    have Z236 : n0 ≤ h236.size := Nat.le_trans Z235 Kq236.1
    have g_ar_236 : n0 ≤ ar_236 := Nat.le_trans Z235 sz__236
    have ne_aq_222_ar_236 : aq_222 ≠ ar_236 := Nat.ne_of_lt (Nat.lt_of_lt_of_le V1_235.lt sz__236)
    have ne_ar_227_ar_236 : ar_227 ≠ ar_236 := Nat.ne_of_lt (Nat.lt_of_lt_of_le f237.lt sz__236)
    have ne_b176_ar_236 : b176 ≠ ar_236 := Nat.ne_of_lt (Nat.lt_of_lt_of_le E1_235.lt sz__236)
    refine Go.trans st236 ?_
    show Go _ _ _ _ _ _ _ T236 (mkF m 92 #[.val (.int ik), .val (.int if_), .val (.int ix), .val (.long jv), .second, .val (.int ig), .val (.ref b172), .val (.ref b176), .unset] [(.ref ar_236)])
    refine Go.step (fun _ k => XS.astore X236.here hx rfl (hb hby at_92) rfl rfl (l' := #[.val (.int ik), .val (.int if_), .val (.int ix), .val (.long jv), .second, .val (.int ig), .val (.ref b172), .val (.ref b176), .val (.ref ar_236)]) rfl k) ?_
    show Go _ _ _ _ _ _ _ T236 (mkF m 94 #[.val (.int ik), .val (.int if_), .val (.int ix), .val (.long jv), .second, .val (.int ig), .val (.ref b172), .val (.ref b176), .val (.ref ar_236)] [])
    refine Go.step (fun _ k => XS.aload X236.here hx rfl (hb hby at_94) rfl rfl k) ?_
    show Go _ _ _ _ _ _ _ T236 (mkF m 96 #[.val (.int ik), .val (.int if_), .val (.int ix), .val (.long jv), .second, .val (.int ig), .val (.ref b172), .val (.ref b176), .val (.ref ar_236)] [(.ref ar_236)])
    obtain ⟨cl238, Ar238, -, S238, M238, -, -⟩ := id (V1_236)
    have al238 := X236.arraylength hx (by rw [e236]; exact Ar238.1) (State.isArrayOf_alike hZ.alike Ar238.2.1) (g := (mkF m 96 #[.val (.int ik), .val (.int if_), .val (.int ix), .val (.long jv), .second, .val (.int ig), .val (.ref b172), .val (.ref b176), .val (.ref ar_236)] [(.ref ar_236)])) rfl rfl (hb hby at_96)
    rw [len_of S238 M238] at al238
    refine Go.step al238 ?_
    show Go _ _ _ _ _ _ _ T236 (mkF m 97 #[.val (.int ik), .val (.int if_), .val (.int ix), .val (.long jv), .second, .val (.int ig), .val (.ref b172), .val (.ref b176), .val (.ref ar_236)] [(.int (9 : Int32))])
    refine Go.step (fun _ k => XS.bipush X236.here hx rfl (hb hby at_97) k) ?_
    show Go _ _ _ _ _ _ _ T236 (mkF m 99 #[.val (.int ik), .val (.int if_), .val (.int ix), .val (.long jv), .second, .val (.int ig), .val (.ref b172), .val (.ref b176), .val (.ref ar_236)] [(.int (9 : Int32)), (.int (9 : Int32))])
    have hc99_239 : (9 : Int32) = (9 : Int32) := (by decide)
    refine Go.step (fun _ k => XS.icmpYes X236.here hx rfl (pc0 := 99) (pc' := 104) rfl (hb hby at_99) rfl (teq hc99_239).1 (by decide) (by decide) k) ?_
    show Go _ _ _ _ _ _ _ T236 (mkF m 104 #[.val (.int ik), .val (.int if_), .val (.int ix), .val (.long jv), .second, .val (.int ig), .val (.ref b172), .val (.ref b176), .val (.ref ar_236)] [])
    refine Go.step (fun _ k => XS.aload X236.here hx rfl (hb hby at_104) rfl rfl k) ?_
    show Go _ _ _ _ _ _ _ T236 (mkF m 106 #[.val (.int ik), .val (.int if_), .val (.int ix), .val (.long jv), .second, .val (.int ig), .val (.ref b172), .val (.ref b176), .val (.ref ar_236)] [(.ref b176)])
    have f241 : Exa Z h236 b176 "com/example/stitchwire/stitchwire/Output" := (E1_235.keep Kq236)
    have f242 : Fld Z h236 b176 "com/example/stitchwire/stitchwire/Output" "size" "I" (.int (9 : Int32)) := (Fs1_235.keep Kq236 nin0)
    obtain ⟨cq240, kq240, q240a, q240b, q240c⟩ := isOf hZ e236 f241
    obtain ⟨_, _, ⟨T240, L240, k240, n240⟩, -, X240, ⟨Lc240, hQ240, l240, y240, z240⟩, st240⟩ := X236.virtualBack hx (y := (⟨"com/example/stitchwire/stitchwire/Output", "size", "()I"⟩ : MethodName)) (z := (⟨"com/example/stitchwire/stitchwire/Output", "size", "()I"⟩ : MethodName)) hown (mvT hZ (hw _ (List.mem_of_getElem? (i := 28) rfl))) (mvT hZ (hw _ (List.mem_of_getElem? (i := 29) rfl))) (notFace_of_selects (args := #[]) (mvT hZ (hw _ (List.mem_of_getElem? (i := 31) rfl)))) (mvT hZ (hw _ (List.mem_of_getElem? (i := 31) rfl))) (mvT hZ (hw _ (List.mem_of_getElem? (i := 30) rfl))) (by decide) (backOf (W := 0) (rmSi l Z a0 hw [] b176 (9 : Int32) h236 n0 Z236 f241 f242) hZ (hw _ (List.mem_of_getElem? (i := 32) rfl)) (hw _ (List.mem_of_getElem? (i := 3) rfl)) (by decide) (by decide)) q240a q240c (g := (mkF m 106 #[.val (.int ik), .val (.int if_), .val (.int ix), .val (.long jv), .second, .val (.int ig), .val (.ref b172), .val (.ref b176), .val (.ref ar_236)] [(.ref b176)])) rfl (by rw [hml]; rfl) (Steps.refl _) (argsL := []) (rest := []) (lenOf pd___I rfl) rfl (by show 2 * 0 + _ ≤ _; exact Nat.le_of_eq rfl) (hb hby at_106) (fun _ _ => ⟨rfl, e236, (by decide : 7 + 0 ≤ _), (by decide : 390 + 0 ≤ _)⟩)
    dsimp only [Pt.U, Pt.locs, Pt.cells, Pt.slots] at X240 l240 y240 z240 st240 hQ240
    subst l240 y240 z240
    obtain ⟨h240, e240⟩ : ∃ h, T240.heap = h := ⟨_, rfl⟩
    rw [e240] at hQ240
    obtain ⟨rfl, Nq240, hs240⟩ := hQ240
    have N240 := Fr.app N236 Nq240
    rw [hs240] at e240
    refine Go.trans st240 ?_
    show Go _ _ _ _ _ _ _ T240 (mkF m 109 #[.val (.int ik), .val (.int if_), .val (.int ix), .val (.long jv), .second, .val (.int ig), .val (.ref b172), .val (.ref b176), .val (.ref ar_236)] [(.int (9 : Int32))])
    refine Go.step (fun _ k => XS.bipush X240.here hx rfl (hb hby at_109) k) ?_
    show Go _ _ _ _ _ _ _ T240 (mkF m 111 #[.val (.int ik), .val (.int if_), .val (.int ix), .val (.long jv), .second, .val (.int ig), .val (.ref b172), .val (.ref b176), .val (.ref ar_236)] [(.int (9 : Int32)), (.int (9 : Int32))])
    have hc111_243 : (9 : Int32) = (9 : Int32) := (by decide)
    refine Go.step (fun _ k => XS.icmpYes X240.here hx rfl (pc0 := 111) (pc' := 116) rfl (hb hby at_111) rfl (teq hc111_243).1 (by decide) (by decide) k) ?_
    show Go _ _ _ _ _ _ _ T240 (mkF m 116 #[.val (.int ik), .val (.int if_), .val (.int ix), .val (.long jv), .second, .val (.int ig), .val (.ref b172), .val (.ref b176), .val (.ref ar_236)] [])
    refine Go.step (fun _ k => XS.aload X240.here hx rfl (hb hby at_116) rfl rfl k) ?_
    show Go _ _ _ _ _ _ _ T240 (mkF m 118 #[.val (.int ik), .val (.int if_), .val (.int ix), .val (.long jv), .second, .val (.int ig), .val (.ref b172), .val (.ref b176), .val (.ref ar_236)] [(.ref ar_236)])
    refine Go.step (fun _ k => XS.iconst X240.here hx rfl (hb hby at_118) k) ?_
    show Go _ _ _ _ _ _ _ T240 (mkF m 119 #[.val (.int ik), .val (.int if_), .val (.int ix), .val (.long jv), .second, .val (.int ig), .val (.ref b172), .val (.ref b176), .val (.ref ar_236)] [(.int (0 : Int32)), (.ref ar_236)])
    obtain ⟨cl244, Ar244, q244, S244, M244, H244, G244⟩ := id (V1_236)
    have hin244 : ¬ ((0 : Int32) < 0 ∨ cl244.slots.size ≤ ((0 : Int32)).toNatClampNeg) := inb_of S244 ⟨by decide, by decide⟩
    have hat244 : cl244.slots[((0 : Int32)).toNatClampNeg]? = some (.int (nar .byte ix.toInt8.toInt32)) := H244.at hin244 ((pa_236 _ (by decide)).trans ((own_n (by decide)).trans ((own_n (by decide)).trans ((own_n (by decide)).trans ((own_n (by decide)).trans ((own_n (by decide)).trans ((own_n (by decide)).trans ((own_n (by decide)).trans ((own_n (by decide)).trans (own_g (by (try simp only [List.length_set]); exact Nat.lt_of_lt_of_le (by decide) (own_64 p6_222 pl_222))))))))))))
    refine Go.step (X240.baloadBytes hx (j := (0 : Int32)) (v := (.int (nar .byte ix.toInt8.toInt32))) (by rw [e240]; exact Ar244.1) (State.isArrayOf_alike hZ.alike Ar244.2.1) Ar244.2.2 hin244 hat244 (g := (mkF m 119 #[.val (.int ik), .val (.int if_), .val (.int ix), .val (.long jv), .second, .val (.int ig), .val (.ref b172), .val (.ref b176), .val (.ref ar_236)] [(.int (0 : Int32)), (.ref ar_236)])) rfl rfl (hb hby at_119)) ?_
    show Go _ _ _ _ _ _ _ T240 (mkF m 120 #[.val (.int ik), .val (.int if_), .val (.int ix), .val (.long jv), .second, .val (.int ig), .val (.ref b172), .val (.ref b176), .val (.ref ar_236)] [(.int (nar .byte ix.toInt8.toInt32))])
    refine Go.step (fun _ k => XS.iloadN X240.here hx rfl (hb hby at_120) rfl k) ?_
    show Go _ _ _ _ _ _ _ T240 (mkF m 121 #[.val (.int ik), .val (.int if_), .val (.int ix), .val (.long jv), .second, .val (.int ig), .val (.ref b172), .val (.ref b176), .val (.ref ar_236)] [(.int ix), (.int (nar .byte ix.toInt8.toInt32))])
    refine Go.step (fun _ k => XS.i2b X240.here hx rfl (hb hby at_121) rfl k) ?_
    show Go _ _ _ _ _ _ _ T240 (mkF m 122 #[.val (.int ik), .val (.int if_), .val (.int ix), .val (.long jv), .second, .val (.int ig), .val (.ref b172), .val (.ref b176), .val (.ref ar_236)] [(.int (ix.toInt8.toInt32)), (.int (nar .byte ix.toInt8.toInt32))])
    have hc122_245 : (nar .byte ix.toInt8.toInt32) = (ix.toInt8.toInt32) := own_i2b2 _
    refine Go.step (fun _ k => XS.icmpNo X240.here hx rfl (hb hby at_122) rfl (teq hc122_245).2 k) ?_
    show Go _ _ _ _ _ _ _ T240 (mkF m 125 #[.val (.int ik), .val (.int if_), .val (.int ix), .val (.long jv), .second, .val (.int ig), .val (.ref b172), .val (.ref b176), .val (.ref ar_236)] [])
    refine Go.step (fun _ k => XS.aload X240.here hx rfl (hb hby at_125) rfl rfl k) ?_
    show Go _ _ _ _ _ _ _ T240 (mkF m 127 #[.val (.int ik), .val (.int if_), .val (.int ix), .val (.long jv), .second, .val (.int ig), .val (.ref b172), .val (.ref b176), .val (.ref ar_236)] [(.ref ar_236)])
    refine Go.step (fun _ k => XS.iconst X240.here hx rfl (hb hby at_127) k) ?_
    show Go _ _ _ _ _ _ _ T240 (mkF m 128 #[.val (.int ik), .val (.int if_), .val (.int ix), .val (.long jv), .second, .val (.int ig), .val (.ref b172), .val (.ref b176), .val (.ref ar_236)] [(.int (1 : Int32)), (.ref ar_236)])
    obtain ⟨cl246, Ar246, q246, S246, M246, H246, G246⟩ := id (V1_236)
    have hin246 : ¬ ((1 : Int32) < 0 ∨ cl246.slots.size ≤ ((1 : Int32)).toNatClampNeg) := inb_of S246 ⟨by decide, by decide⟩
    have hat246 : cl246.slots[((1 : Int32)).toNatClampNeg]? = some (.int (nar .byte ((((jv.toUInt64 >>> ((0 : Int32) &&& 0x3f).toInt64.toUInt64).toInt64).toInt32).toInt8.toInt32))) := H246.at hin246 ((pa_236 _ (by decide)).trans ((own_n (by decide)).trans ((own_n (by decide)).trans ((own_n (by decide)).trans ((own_n (by decide)).trans ((own_n (by decide)).trans ((own_n (by decide)).trans ((own_n (by decide)).trans (own_g (by (try simp only [List.length_set]); exact Nat.lt_of_lt_of_le (by decide) (own_64 p6_222 pl_222)))))))))))
    refine Go.step (X240.baloadBytes hx (j := (1 : Int32)) (v := (.int (nar .byte ((((jv.toUInt64 >>> ((0 : Int32) &&& 0x3f).toInt64.toUInt64).toInt64).toInt32).toInt8.toInt32)))) (by rw [e240]; exact Ar246.1) (State.isArrayOf_alike hZ.alike Ar246.2.1) Ar246.2.2 hin246 hat246 (g := (mkF m 128 #[.val (.int ik), .val (.int if_), .val (.int ix), .val (.long jv), .second, .val (.int ig), .val (.ref b172), .val (.ref b176), .val (.ref ar_236)] [(.int (1 : Int32)), (.ref ar_236)])) rfl rfl (hb hby at_128)) ?_
    show Go _ _ _ _ _ _ _ T240 (mkF m 129 #[.val (.int ik), .val (.int if_), .val (.int ix), .val (.long jv), .second, .val (.int ig), .val (.ref b172), .val (.ref b176), .val (.ref ar_236)] [(.int (nar .byte ((((jv.toUInt64 >>> ((0 : Int32) &&& 0x3f).toInt64.toUInt64).toInt64).toInt32).toInt8.toInt32)))])
    refine Go.step (fun _ k => XS.lloadN X240.here hx rfl (hb hby at_129) rfl k) ?_
    show Go _ _ _ _ _ _ _ T240 (mkF m 130 #[.val (.int ik), .val (.int if_), .val (.int ix), .val (.long jv), .second, .val (.int ig), .val (.ref b172), .val (.ref b176), .val (.ref ar_236)] [(.long jv), (.int (nar .byte ((((jv.toUInt64 >>> ((0 : Int32) &&& 0x3f).toInt64.toUInt64).toInt64).toInt32).toInt8.toInt32)))])
    refine Go.step (fun _ k => XS.l2i X240.here hx rfl (hb hby at_130) rfl k) ?_
    show Go _ _ _ _ _ _ _ T240 (mkF m 131 #[.val (.int ik), .val (.int if_), .val (.int ix), .val (.long jv), .second, .val (.int ig), .val (.ref b172), .val (.ref b176), .val (.ref ar_236)] [(.int (jv.toInt32)), (.int (nar .byte ((((jv.toUInt64 >>> ((0 : Int32) &&& 0x3f).toInt64.toUInt64).toInt64).toInt32).toInt8.toInt32)))])
    refine Go.step (fun _ k => XS.i2b X240.here hx rfl (hb hby at_131) rfl k) ?_
    show Go _ _ _ _ _ _ _ T240 (mkF m 132 #[.val (.int ik), .val (.int if_), .val (.int ix), .val (.long jv), .second, .val (.int ig), .val (.ref b172), .val (.ref b176), .val (.ref ar_236)] [(.int ((jv.toInt32).toInt8.toInt32)), (.int (nar .byte ((((jv.toUInt64 >>> ((0 : Int32) &&& 0x3f).toInt64.toUInt64).toInt64).toInt32).toInt8.toInt32)))])
    have hc132_247 : (nar .byte ((((jv.toUInt64 >>> ((0 : Int32) &&& 0x3f).toInt64.toUInt64).toInt64).toInt32).toInt8.toInt32)) = ((jv.toInt32).toInt8.toInt32) := ((own_i2b2 _).trans (by rw [own_sh0]))
    refine Go.step (fun _ k => XS.icmpNo X240.here hx rfl (hb hby at_132) rfl (teq hc132_247).2 k) ?_
    show Go _ _ _ _ _ _ _ T240 (mkF m 135 #[.val (.int ik), .val (.int if_), .val (.int ix), .val (.long jv), .second, .val (.int ig), .val (.ref b172), .val (.ref b176), .val (.ref ar_236)] [])
    refine Go.step (fun _ k => XS.aload X240.here hx rfl (hb hby at_135) rfl rfl k) ?_
    show Go _ _ _ _ _ _ _ T240 (mkF m 137 #[.val (.int ik), .val (.int if_), .val (.int ix), .val (.long jv), .second, .val (.int ig), .val (.ref b172), .val (.ref b176), .val (.ref ar_236)] [(.ref ar_236)])
    refine Go.step (fun _ k => XS.iconst X240.here hx rfl (hb hby at_137) k) ?_
    show Go _ _ _ _ _ _ _ T240 (mkF m 138 #[.val (.int ik), .val (.int if_), .val (.int ix), .val (.long jv), .second, .val (.int ig), .val (.ref b172), .val (.ref b176), .val (.ref ar_236)] [(.int (2 : Int32)), (.ref ar_236)])
    obtain ⟨cl248, Ar248, q248, S248, M248, H248, G248⟩ := id (V1_236)
    have hin248 : ¬ ((2 : Int32) < 0 ∨ cl248.slots.size ≤ ((2 : Int32)).toNatClampNeg) := inb_of S248 ⟨by decide, by decide⟩
    have hat248 : cl248.slots[((2 : Int32)).toNatClampNeg]? = some (.int (nar .byte ((((jv.toUInt64 >>> ((8 : Int32) &&& 0x3f).toInt64.toUInt64).toInt64).toInt32).toInt8.toInt32))) := H248.at hin248 ((pa_236 _ (by decide)).trans ((own_n (by decide)).trans ((own_n (by decide)).trans ((own_n (by decide)).trans ((own_n (by decide)).trans ((own_n (by decide)).trans ((own_n (by decide)).trans (own_g (by (try simp only [List.length_set]); exact Nat.lt_of_lt_of_le (by decide) (own_64 p6_222 pl_222))))))))))
    refine Go.step (X240.baloadBytes hx (j := (2 : Int32)) (v := (.int (nar .byte ((((jv.toUInt64 >>> ((8 : Int32) &&& 0x3f).toInt64.toUInt64).toInt64).toInt32).toInt8.toInt32)))) (by rw [e240]; exact Ar248.1) (State.isArrayOf_alike hZ.alike Ar248.2.1) Ar248.2.2 hin248 hat248 (g := (mkF m 138 #[.val (.int ik), .val (.int if_), .val (.int ix), .val (.long jv), .second, .val (.int ig), .val (.ref b172), .val (.ref b176), .val (.ref ar_236)] [(.int (2 : Int32)), (.ref ar_236)])) rfl rfl (hb hby at_138)) ?_
    show Go _ _ _ _ _ _ _ T240 (mkF m 139 #[.val (.int ik), .val (.int if_), .val (.int ix), .val (.long jv), .second, .val (.int ig), .val (.ref b172), .val (.ref b176), .val (.ref ar_236)] [(.int (nar .byte ((((jv.toUInt64 >>> ((8 : Int32) &&& 0x3f).toInt64.toUInt64).toInt64).toInt32).toInt8.toInt32)))])
    refine Go.step (fun _ k => XS.lloadN X240.here hx rfl (hb hby at_139) rfl k) ?_
    show Go _ _ _ _ _ _ _ T240 (mkF m 140 #[.val (.int ik), .val (.int if_), .val (.int ix), .val (.long jv), .second, .val (.int ig), .val (.ref b172), .val (.ref b176), .val (.ref ar_236)] [(.long jv), (.int (nar .byte ((((jv.toUInt64 >>> ((8 : Int32) &&& 0x3f).toInt64.toUInt64).toInt64).toInt32).toInt8.toInt32)))])
    refine Go.step (fun _ k => XS.bipush X240.here hx rfl (hb hby at_140) k) ?_
    show Go _ _ _ _ _ _ _ T240 (mkF m 142 #[.val (.int ik), .val (.int if_), .val (.int ix), .val (.long jv), .second, .val (.int ig), .val (.ref b172), .val (.ref b176), .val (.ref ar_236)] [(.int (8 : Int32)), (.long jv), (.int (nar .byte ((((jv.toUInt64 >>> ((8 : Int32) &&& 0x3f).toInt64.toUInt64).toInt64).toInt32).toInt8.toInt32)))])
    refine Go.step (fun _ k => XS.lushr X240.here hx rfl (hb hby at_142) rfl k) ?_
    show Go _ _ _ _ _ _ _ T240 (mkF m 143 #[.val (.int ik), .val (.int if_), .val (.int ix), .val (.long jv), .second, .val (.int ig), .val (.ref b172), .val (.ref b176), .val (.ref ar_236)] [(.long ((jv.toUInt64 >>> ((8 : Int32) &&& 0x3f).toInt64.toUInt64).toInt64)), (.int (nar .byte ((((jv.toUInt64 >>> ((8 : Int32) &&& 0x3f).toInt64.toUInt64).toInt64).toInt32).toInt8.toInt32)))])
    refine Go.step (fun _ k => XS.l2i X240.here hx rfl (hb hby at_143) rfl k) ?_
    show Go _ _ _ _ _ _ _ T240 (mkF m 144 #[.val (.int ik), .val (.int if_), .val (.int ix), .val (.long jv), .second, .val (.int ig), .val (.ref b172), .val (.ref b176), .val (.ref ar_236)] [(.int (((jv.toUInt64 >>> ((8 : Int32) &&& 0x3f).toInt64.toUInt64).toInt64).toInt32)), (.int (nar .byte ((((jv.toUInt64 >>> ((8 : Int32) &&& 0x3f).toInt64.toUInt64).toInt64).toInt32).toInt8.toInt32)))])
    refine Go.step (fun _ k => XS.i2b X240.here hx rfl (hb hby at_144) rfl k) ?_
    show Go _ _ _ _ _ _ _ T240 (mkF m 145 #[.val (.int ik), .val (.int if_), .val (.int ix), .val (.long jv), .second, .val (.int ig), .val (.ref b172), .val (.ref b176), .val (.ref ar_236)] [(.int ((((jv.toUInt64 >>> ((8 : Int32) &&& 0x3f).toInt64.toUInt64).toInt64).toInt32).toInt8.toInt32)), (.int (nar .byte ((((jv.toUInt64 >>> ((8 : Int32) &&& 0x3f).toInt64.toUInt64).toInt64).toInt32).toInt8.toInt32)))])
    have hc145_249 : (nar .byte ((((jv.toUInt64 >>> ((8 : Int32) &&& 0x3f).toInt64.toUInt64).toInt64).toInt32).toInt8.toInt32)) = ((((jv.toUInt64 >>> ((8 : Int32) &&& 0x3f).toInt64.toUInt64).toInt64).toInt32).toInt8.toInt32) := own_i2b2 _
    refine Go.step (fun _ k => XS.icmpNo X240.here hx rfl (hb hby at_145) rfl (teq hc145_249).2 k) ?_
    show Go _ _ _ _ _ _ _ T240 (mkF m 148 #[.val (.int ik), .val (.int if_), .val (.int ix), .val (.long jv), .second, .val (.int ig), .val (.ref b172), .val (.ref b176), .val (.ref ar_236)] [])
    refine Go.step (fun _ k => XS.aload X240.here hx rfl (hb hby at_148) rfl rfl k) ?_
    show Go _ _ _ _ _ _ _ T240 (mkF m 150 #[.val (.int ik), .val (.int if_), .val (.int ix), .val (.long jv), .second, .val (.int ig), .val (.ref b172), .val (.ref b176), .val (.ref ar_236)] [(.ref ar_236)])
    refine Go.step (fun _ k => XS.iconst X240.here hx rfl (hb hby at_150) k) ?_
    show Go _ _ _ _ _ _ _ T240 (mkF m 151 #[.val (.int ik), .val (.int if_), .val (.int ix), .val (.long jv), .second, .val (.int ig), .val (.ref b172), .val (.ref b176), .val (.ref ar_236)] [(.int (3 : Int32)), (.ref ar_236)])
    obtain ⟨cl250, Ar250, q250, S250, M250, H250, G250⟩ := id (V1_236)
    have hin250 : ¬ ((3 : Int32) < 0 ∨ cl250.slots.size ≤ ((3 : Int32)).toNatClampNeg) := inb_of S250 ⟨by decide, by decide⟩
    have hat250 : cl250.slots[((3 : Int32)).toNatClampNeg]? = some (.int (nar .byte ((((jv.toUInt64 >>> ((16 : Int32) &&& 0x3f).toInt64.toUInt64).toInt64).toInt32).toInt8.toInt32))) := H250.at hin250 ((pa_236 _ (by decide)).trans ((own_n (by decide)).trans ((own_n (by decide)).trans ((own_n (by decide)).trans ((own_n (by decide)).trans ((own_n (by decide)).trans (own_g (by (try simp only [List.length_set]); exact Nat.lt_of_lt_of_le (by decide) (own_64 p6_222 pl_222)))))))))
    refine Go.step (X240.baloadBytes hx (j := (3 : Int32)) (v := (.int (nar .byte ((((jv.toUInt64 >>> ((16 : Int32) &&& 0x3f).toInt64.toUInt64).toInt64).toInt32).toInt8.toInt32)))) (by rw [e240]; exact Ar250.1) (State.isArrayOf_alike hZ.alike Ar250.2.1) Ar250.2.2 hin250 hat250 (g := (mkF m 151 #[.val (.int ik), .val (.int if_), .val (.int ix), .val (.long jv), .second, .val (.int ig), .val (.ref b172), .val (.ref b176), .val (.ref ar_236)] [(.int (3 : Int32)), (.ref ar_236)])) rfl rfl (hb hby at_151)) ?_
    show Go _ _ _ _ _ _ _ T240 (mkF m 152 #[.val (.int ik), .val (.int if_), .val (.int ix), .val (.long jv), .second, .val (.int ig), .val (.ref b172), .val (.ref b176), .val (.ref ar_236)] [(.int (nar .byte ((((jv.toUInt64 >>> ((16 : Int32) &&& 0x3f).toInt64.toUInt64).toInt64).toInt32).toInt8.toInt32)))])
    refine Go.step (fun _ k => XS.lloadN X240.here hx rfl (hb hby at_152) rfl k) ?_
    show Go _ _ _ _ _ _ _ T240 (mkF m 153 #[.val (.int ik), .val (.int if_), .val (.int ix), .val (.long jv), .second, .val (.int ig), .val (.ref b172), .val (.ref b176), .val (.ref ar_236)] [(.long jv), (.int (nar .byte ((((jv.toUInt64 >>> ((16 : Int32) &&& 0x3f).toInt64.toUInt64).toInt64).toInt32).toInt8.toInt32)))])
    refine Go.step (fun _ k => XS.bipush X240.here hx rfl (hb hby at_153) k) ?_
    show Go _ _ _ _ _ _ _ T240 (mkF m 155 #[.val (.int ik), .val (.int if_), .val (.int ix), .val (.long jv), .second, .val (.int ig), .val (.ref b172), .val (.ref b176), .val (.ref ar_236)] [(.int (16 : Int32)), (.long jv), (.int (nar .byte ((((jv.toUInt64 >>> ((16 : Int32) &&& 0x3f).toInt64.toUInt64).toInt64).toInt32).toInt8.toInt32)))])
    refine Go.step (fun _ k => XS.lushr X240.here hx rfl (hb hby at_155) rfl k) ?_
    show Go _ _ _ _ _ _ _ T240 (mkF m 156 #[.val (.int ik), .val (.int if_), .val (.int ix), .val (.long jv), .second, .val (.int ig), .val (.ref b172), .val (.ref b176), .val (.ref ar_236)] [(.long ((jv.toUInt64 >>> ((16 : Int32) &&& 0x3f).toInt64.toUInt64).toInt64)), (.int (nar .byte ((((jv.toUInt64 >>> ((16 : Int32) &&& 0x3f).toInt64.toUInt64).toInt64).toInt32).toInt8.toInt32)))])
    refine Go.step (fun _ k => XS.l2i X240.here hx rfl (hb hby at_156) rfl k) ?_
    show Go _ _ _ _ _ _ _ T240 (mkF m 157 #[.val (.int ik), .val (.int if_), .val (.int ix), .val (.long jv), .second, .val (.int ig), .val (.ref b172), .val (.ref b176), .val (.ref ar_236)] [(.int (((jv.toUInt64 >>> ((16 : Int32) &&& 0x3f).toInt64.toUInt64).toInt64).toInt32)), (.int (nar .byte ((((jv.toUInt64 >>> ((16 : Int32) &&& 0x3f).toInt64.toUInt64).toInt64).toInt32).toInt8.toInt32)))])
    refine Go.step (fun _ k => XS.i2b X240.here hx rfl (hb hby at_157) rfl k) ?_
    show Go _ _ _ _ _ _ _ T240 (mkF m 158 #[.val (.int ik), .val (.int if_), .val (.int ix), .val (.long jv), .second, .val (.int ig), .val (.ref b172), .val (.ref b176), .val (.ref ar_236)] [(.int ((((jv.toUInt64 >>> ((16 : Int32) &&& 0x3f).toInt64.toUInt64).toInt64).toInt32).toInt8.toInt32)), (.int (nar .byte ((((jv.toUInt64 >>> ((16 : Int32) &&& 0x3f).toInt64.toUInt64).toInt64).toInt32).toInt8.toInt32)))])
    have hc158_251 : (nar .byte ((((jv.toUInt64 >>> ((16 : Int32) &&& 0x3f).toInt64.toUInt64).toInt64).toInt32).toInt8.toInt32)) = ((((jv.toUInt64 >>> ((16 : Int32) &&& 0x3f).toInt64.toUInt64).toInt64).toInt32).toInt8.toInt32) := own_i2b2 _
    refine Go.step (fun _ k => XS.icmpNo X240.here hx rfl (hb hby at_158) rfl (teq hc158_251).2 k) ?_
    show Go _ _ _ _ _ _ _ T240 (mkF m 161 #[.val (.int ik), .val (.int if_), .val (.int ix), .val (.long jv), .second, .val (.int ig), .val (.ref b172), .val (.ref b176), .val (.ref ar_236)] [])
    refine Go.step (fun _ k => XS.aload X240.here hx rfl (hb hby at_161) rfl rfl k) ?_
    show Go _ _ _ _ _ _ _ T240 (mkF m 163 #[.val (.int ik), .val (.int if_), .val (.int ix), .val (.long jv), .second, .val (.int ig), .val (.ref b172), .val (.ref b176), .val (.ref ar_236)] [(.ref ar_236)])
    refine Go.step (fun _ k => XS.iconst X240.here hx rfl (hb hby at_163) k) ?_
    show Go _ _ _ _ _ _ _ T240 (mkF m 164 #[.val (.int ik), .val (.int if_), .val (.int ix), .val (.long jv), .second, .val (.int ig), .val (.ref b172), .val (.ref b176), .val (.ref ar_236)] [(.int (4 : Int32)), (.ref ar_236)])
    obtain ⟨cl252, Ar252, q252, S252, M252, H252, G252⟩ := id (V1_236)
    have hin252 : ¬ ((4 : Int32) < 0 ∨ cl252.slots.size ≤ ((4 : Int32)).toNatClampNeg) := inb_of S252 ⟨by decide, by decide⟩
    have hat252 : cl252.slots[((4 : Int32)).toNatClampNeg]? = some (.int (nar .byte ((((jv.toUInt64 >>> ((24 : Int32) &&& 0x3f).toInt64.toUInt64).toInt64).toInt32).toInt8.toInt32))) := H252.at hin252 ((pa_236 _ (by decide)).trans ((own_n (by decide)).trans ((own_n (by decide)).trans ((own_n (by decide)).trans ((own_n (by decide)).trans (own_g (by (try simp only [List.length_set]); exact Nat.lt_of_lt_of_le (by decide) (own_64 p6_222 pl_222))))))))
    refine Go.step (X240.baloadBytes hx (j := (4 : Int32)) (v := (.int (nar .byte ((((jv.toUInt64 >>> ((24 : Int32) &&& 0x3f).toInt64.toUInt64).toInt64).toInt32).toInt8.toInt32)))) (by rw [e240]; exact Ar252.1) (State.isArrayOf_alike hZ.alike Ar252.2.1) Ar252.2.2 hin252 hat252 (g := (mkF m 164 #[.val (.int ik), .val (.int if_), .val (.int ix), .val (.long jv), .second, .val (.int ig), .val (.ref b172), .val (.ref b176), .val (.ref ar_236)] [(.int (4 : Int32)), (.ref ar_236)])) rfl rfl (hb hby at_164)) ?_
    show Go _ _ _ _ _ _ _ T240 (mkF m 165 #[.val (.int ik), .val (.int if_), .val (.int ix), .val (.long jv), .second, .val (.int ig), .val (.ref b172), .val (.ref b176), .val (.ref ar_236)] [(.int (nar .byte ((((jv.toUInt64 >>> ((24 : Int32) &&& 0x3f).toInt64.toUInt64).toInt64).toInt32).toInt8.toInt32)))])
    refine Go.step (fun _ k => XS.lloadN X240.here hx rfl (hb hby at_165) rfl k) ?_
    show Go _ _ _ _ _ _ _ T240 (mkF m 166 #[.val (.int ik), .val (.int if_), .val (.int ix), .val (.long jv), .second, .val (.int ig), .val (.ref b172), .val (.ref b176), .val (.ref ar_236)] [(.long jv), (.int (nar .byte ((((jv.toUInt64 >>> ((24 : Int32) &&& 0x3f).toInt64.toUInt64).toInt64).toInt32).toInt8.toInt32)))])
    refine Go.step (fun _ k => XS.bipush X240.here hx rfl (hb hby at_166) k) ?_
    show Go _ _ _ _ _ _ _ T240 (mkF m 168 #[.val (.int ik), .val (.int if_), .val (.int ix), .val (.long jv), .second, .val (.int ig), .val (.ref b172), .val (.ref b176), .val (.ref ar_236)] [(.int (24 : Int32)), (.long jv), (.int (nar .byte ((((jv.toUInt64 >>> ((24 : Int32) &&& 0x3f).toInt64.toUInt64).toInt64).toInt32).toInt8.toInt32)))])
    refine Go.step (fun _ k => XS.lushr X240.here hx rfl (hb hby at_168) rfl k) ?_
    show Go _ _ _ _ _ _ _ T240 (mkF m 169 #[.val (.int ik), .val (.int if_), .val (.int ix), .val (.long jv), .second, .val (.int ig), .val (.ref b172), .val (.ref b176), .val (.ref ar_236)] [(.long ((jv.toUInt64 >>> ((24 : Int32) &&& 0x3f).toInt64.toUInt64).toInt64)), (.int (nar .byte ((((jv.toUInt64 >>> ((24 : Int32) &&& 0x3f).toInt64.toUInt64).toInt64).toInt32).toInt8.toInt32)))])
    refine Go.step (fun _ k => XS.l2i X240.here hx rfl (hb hby at_169) rfl k) ?_
    show Go _ _ _ _ _ _ _ T240 (mkF m 170 #[.val (.int ik), .val (.int if_), .val (.int ix), .val (.long jv), .second, .val (.int ig), .val (.ref b172), .val (.ref b176), .val (.ref ar_236)] [(.int (((jv.toUInt64 >>> ((24 : Int32) &&& 0x3f).toInt64.toUInt64).toInt64).toInt32)), (.int (nar .byte ((((jv.toUInt64 >>> ((24 : Int32) &&& 0x3f).toInt64.toUInt64).toInt64).toInt32).toInt8.toInt32)))])
    refine Go.step (fun _ k => XS.i2b X240.here hx rfl (hb hby at_170) rfl k) ?_
    show Go _ _ _ _ _ _ _ T240 (mkF m 171 #[.val (.int ik), .val (.int if_), .val (.int ix), .val (.long jv), .second, .val (.int ig), .val (.ref b172), .val (.ref b176), .val (.ref ar_236)] [(.int ((((jv.toUInt64 >>> ((24 : Int32) &&& 0x3f).toInt64.toUInt64).toInt64).toInt32).toInt8.toInt32)), (.int (nar .byte ((((jv.toUInt64 >>> ((24 : Int32) &&& 0x3f).toInt64.toUInt64).toInt64).toInt32).toInt8.toInt32)))])
    have hc171_253 : (nar .byte ((((jv.toUInt64 >>> ((24 : Int32) &&& 0x3f).toInt64.toUInt64).toInt64).toInt32).toInt8.toInt32)) = ((((jv.toUInt64 >>> ((24 : Int32) &&& 0x3f).toInt64.toUInt64).toInt64).toInt32).toInt8.toInt32) := own_i2b2 _
    refine Go.step (fun _ k => XS.icmpNo X240.here hx rfl (hb hby at_171) rfl (teq hc171_253).2 k) ?_
    show Go _ _ _ _ _ _ _ T240 (mkF m 174 #[.val (.int ik), .val (.int if_), .val (.int ix), .val (.long jv), .second, .val (.int ig), .val (.ref b172), .val (.ref b176), .val (.ref ar_236)] [])
    refine Go.step (fun _ k => XS.aload X240.here hx rfl (hb hby at_174) rfl rfl k) ?_
    show Go _ _ _ _ _ _ _ T240 (mkF m 176 #[.val (.int ik), .val (.int if_), .val (.int ix), .val (.long jv), .second, .val (.int ig), .val (.ref b172), .val (.ref b176), .val (.ref ar_236)] [(.ref ar_236)])
    refine Go.step (fun _ k => XS.iconst X240.here hx rfl (hb hby at_176) k) ?_
    show Go _ _ _ _ _ _ _ T240 (mkF m 177 #[.val (.int ik), .val (.int if_), .val (.int ix), .val (.long jv), .second, .val (.int ig), .val (.ref b172), .val (.ref b176), .val (.ref ar_236)] [(.int (5 : Int32)), (.ref ar_236)])
    obtain ⟨cl254, Ar254, q254, S254, M254, H254, G254⟩ := id (V1_236)
    have hin254 : ¬ ((5 : Int32) < 0 ∨ cl254.slots.size ≤ ((5 : Int32)).toNatClampNeg) := inb_of S254 ⟨by decide, by decide⟩
    have hat254 : cl254.slots[((5 : Int32)).toNatClampNeg]? = some (.int (nar .byte ((((jv.toUInt64 >>> ((32 : Int32) &&& 0x3f).toInt64.toUInt64).toInt64).toInt32).toInt8.toInt32))) := H254.at hin254 ((pa_236 _ (by decide)).trans ((own_n (by decide)).trans ((own_n (by decide)).trans ((own_n (by decide)).trans (own_g (by (try simp only [List.length_set]); exact Nat.lt_of_lt_of_le (by decide) (own_64 p6_222 pl_222)))))))
    refine Go.step (X240.baloadBytes hx (j := (5 : Int32)) (v := (.int (nar .byte ((((jv.toUInt64 >>> ((32 : Int32) &&& 0x3f).toInt64.toUInt64).toInt64).toInt32).toInt8.toInt32)))) (by rw [e240]; exact Ar254.1) (State.isArrayOf_alike hZ.alike Ar254.2.1) Ar254.2.2 hin254 hat254 (g := (mkF m 177 #[.val (.int ik), .val (.int if_), .val (.int ix), .val (.long jv), .second, .val (.int ig), .val (.ref b172), .val (.ref b176), .val (.ref ar_236)] [(.int (5 : Int32)), (.ref ar_236)])) rfl rfl (hb hby at_177)) ?_
    show Go _ _ _ _ _ _ _ T240 (mkF m 178 #[.val (.int ik), .val (.int if_), .val (.int ix), .val (.long jv), .second, .val (.int ig), .val (.ref b172), .val (.ref b176), .val (.ref ar_236)] [(.int (nar .byte ((((jv.toUInt64 >>> ((32 : Int32) &&& 0x3f).toInt64.toUInt64).toInt64).toInt32).toInt8.toInt32)))])
    refine Go.step (fun _ k => XS.lloadN X240.here hx rfl (hb hby at_178) rfl k) ?_
    show Go _ _ _ _ _ _ _ T240 (mkF m 179 #[.val (.int ik), .val (.int if_), .val (.int ix), .val (.long jv), .second, .val (.int ig), .val (.ref b172), .val (.ref b176), .val (.ref ar_236)] [(.long jv), (.int (nar .byte ((((jv.toUInt64 >>> ((32 : Int32) &&& 0x3f).toInt64.toUInt64).toInt64).toInt32).toInt8.toInt32)))])
    refine Go.step (fun _ k => XS.bipush X240.here hx rfl (hb hby at_179) k) ?_
    show Go _ _ _ _ _ _ _ T240 (mkF m 181 #[.val (.int ik), .val (.int if_), .val (.int ix), .val (.long jv), .second, .val (.int ig), .val (.ref b172), .val (.ref b176), .val (.ref ar_236)] [(.int (32 : Int32)), (.long jv), (.int (nar .byte ((((jv.toUInt64 >>> ((32 : Int32) &&& 0x3f).toInt64.toUInt64).toInt64).toInt32).toInt8.toInt32)))])
    refine Go.step (fun _ k => XS.lushr X240.here hx rfl (hb hby at_181) rfl k) ?_
    show Go _ _ _ _ _ _ _ T240 (mkF m 182 #[.val (.int ik), .val (.int if_), .val (.int ix), .val (.long jv), .second, .val (.int ig), .val (.ref b172), .val (.ref b176), .val (.ref ar_236)] [(.long ((jv.toUInt64 >>> ((32 : Int32) &&& 0x3f).toInt64.toUInt64).toInt64)), (.int (nar .byte ((((jv.toUInt64 >>> ((32 : Int32) &&& 0x3f).toInt64.toUInt64).toInt64).toInt32).toInt8.toInt32)))])
    refine Go.step (fun _ k => XS.l2i X240.here hx rfl (hb hby at_182) rfl k) ?_
    show Go _ _ _ _ _ _ _ T240 (mkF m 183 #[.val (.int ik), .val (.int if_), .val (.int ix), .val (.long jv), .second, .val (.int ig), .val (.ref b172), .val (.ref b176), .val (.ref ar_236)] [(.int (((jv.toUInt64 >>> ((32 : Int32) &&& 0x3f).toInt64.toUInt64).toInt64).toInt32)), (.int (nar .byte ((((jv.toUInt64 >>> ((32 : Int32) &&& 0x3f).toInt64.toUInt64).toInt64).toInt32).toInt8.toInt32)))])
    refine Go.step (fun _ k => XS.i2b X240.here hx rfl (hb hby at_183) rfl k) ?_
    show Go _ _ _ _ _ _ _ T240 (mkF m 184 #[.val (.int ik), .val (.int if_), .val (.int ix), .val (.long jv), .second, .val (.int ig), .val (.ref b172), .val (.ref b176), .val (.ref ar_236)] [(.int ((((jv.toUInt64 >>> ((32 : Int32) &&& 0x3f).toInt64.toUInt64).toInt64).toInt32).toInt8.toInt32)), (.int (nar .byte ((((jv.toUInt64 >>> ((32 : Int32) &&& 0x3f).toInt64.toUInt64).toInt64).toInt32).toInt8.toInt32)))])
    have hc184_255 : (nar .byte ((((jv.toUInt64 >>> ((32 : Int32) &&& 0x3f).toInt64.toUInt64).toInt64).toInt32).toInt8.toInt32)) = ((((jv.toUInt64 >>> ((32 : Int32) &&& 0x3f).toInt64.toUInt64).toInt64).toInt32).toInt8.toInt32) := own_i2b2 _
    refine Go.step (fun _ k => XS.icmpNo X240.here hx rfl (hb hby at_184) rfl (teq hc184_255).2 k) ?_
    show Go _ _ _ _ _ _ _ T240 (mkF m 187 #[.val (.int ik), .val (.int if_), .val (.int ix), .val (.long jv), .second, .val (.int ig), .val (.ref b172), .val (.ref b176), .val (.ref ar_236)] [])
    refine Go.step (fun _ k => XS.aload X240.here hx rfl (hb hby at_187) rfl rfl k) ?_
    show Go _ _ _ _ _ _ _ T240 (mkF m 189 #[.val (.int ik), .val (.int if_), .val (.int ix), .val (.long jv), .second, .val (.int ig), .val (.ref b172), .val (.ref b176), .val (.ref ar_236)] [(.ref ar_236)])
    refine Go.step (fun _ k => XS.bipush X240.here hx rfl (hb hby at_189) k) ?_
    show Go _ _ _ _ _ _ _ T240 (mkF m 191 #[.val (.int ik), .val (.int if_), .val (.int ix), .val (.long jv), .second, .val (.int ig), .val (.ref b172), .val (.ref b176), .val (.ref ar_236)] [(.int (6 : Int32)), (.ref ar_236)])
    obtain ⟨cl256, Ar256, q256, S256, M256, H256, G256⟩ := id (V1_236)
    have hin256 : ¬ ((6 : Int32) < 0 ∨ cl256.slots.size ≤ ((6 : Int32)).toNatClampNeg) := inb_of S256 ⟨by decide, by decide⟩
    have hat256 : cl256.slots[((6 : Int32)).toNatClampNeg]? = some (.int (nar .byte ((((jv.toUInt64 >>> ((40 : Int32) &&& 0x3f).toInt64.toUInt64).toInt64).toInt32).toInt8.toInt32))) := H256.at hin256 ((pa_236 _ (by decide)).trans ((own_n (by decide)).trans ((own_n (by decide)).trans (own_g (by (try simp only [List.length_set]); exact Nat.lt_of_lt_of_le (by decide) (own_64 p6_222 pl_222))))))
    refine Go.step (X240.baloadBytes hx (j := (6 : Int32)) (v := (.int (nar .byte ((((jv.toUInt64 >>> ((40 : Int32) &&& 0x3f).toInt64.toUInt64).toInt64).toInt32).toInt8.toInt32)))) (by rw [e240]; exact Ar256.1) (State.isArrayOf_alike hZ.alike Ar256.2.1) Ar256.2.2 hin256 hat256 (g := (mkF m 191 #[.val (.int ik), .val (.int if_), .val (.int ix), .val (.long jv), .second, .val (.int ig), .val (.ref b172), .val (.ref b176), .val (.ref ar_236)] [(.int (6 : Int32)), (.ref ar_236)])) rfl rfl (hb hby at_191)) ?_
    show Go _ _ _ _ _ _ _ T240 (mkF m 192 #[.val (.int ik), .val (.int if_), .val (.int ix), .val (.long jv), .second, .val (.int ig), .val (.ref b172), .val (.ref b176), .val (.ref ar_236)] [(.int (nar .byte ((((jv.toUInt64 >>> ((40 : Int32) &&& 0x3f).toInt64.toUInt64).toInt64).toInt32).toInt8.toInt32)))])
    refine Go.step (fun _ k => XS.lloadN X240.here hx rfl (hb hby at_192) rfl k) ?_
    show Go _ _ _ _ _ _ _ T240 (mkF m 193 #[.val (.int ik), .val (.int if_), .val (.int ix), .val (.long jv), .second, .val (.int ig), .val (.ref b172), .val (.ref b176), .val (.ref ar_236)] [(.long jv), (.int (nar .byte ((((jv.toUInt64 >>> ((40 : Int32) &&& 0x3f).toInt64.toUInt64).toInt64).toInt32).toInt8.toInt32)))])
    refine Go.step (fun _ k => XS.bipush X240.here hx rfl (hb hby at_193) k) ?_
    show Go _ _ _ _ _ _ _ T240 (mkF m 195 #[.val (.int ik), .val (.int if_), .val (.int ix), .val (.long jv), .second, .val (.int ig), .val (.ref b172), .val (.ref b176), .val (.ref ar_236)] [(.int (40 : Int32)), (.long jv), (.int (nar .byte ((((jv.toUInt64 >>> ((40 : Int32) &&& 0x3f).toInt64.toUInt64).toInt64).toInt32).toInt8.toInt32)))])
    refine Go.step (fun _ k => XS.lushr X240.here hx rfl (hb hby at_195) rfl k) ?_
    show Go _ _ _ _ _ _ _ T240 (mkF m 196 #[.val (.int ik), .val (.int if_), .val (.int ix), .val (.long jv), .second, .val (.int ig), .val (.ref b172), .val (.ref b176), .val (.ref ar_236)] [(.long ((jv.toUInt64 >>> ((40 : Int32) &&& 0x3f).toInt64.toUInt64).toInt64)), (.int (nar .byte ((((jv.toUInt64 >>> ((40 : Int32) &&& 0x3f).toInt64.toUInt64).toInt64).toInt32).toInt8.toInt32)))])
    refine Go.step (fun _ k => XS.l2i X240.here hx rfl (hb hby at_196) rfl k) ?_
    show Go _ _ _ _ _ _ _ T240 (mkF m 197 #[.val (.int ik), .val (.int if_), .val (.int ix), .val (.long jv), .second, .val (.int ig), .val (.ref b172), .val (.ref b176), .val (.ref ar_236)] [(.int (((jv.toUInt64 >>> ((40 : Int32) &&& 0x3f).toInt64.toUInt64).toInt64).toInt32)), (.int (nar .byte ((((jv.toUInt64 >>> ((40 : Int32) &&& 0x3f).toInt64.toUInt64).toInt64).toInt32).toInt8.toInt32)))])
    refine Go.step (fun _ k => XS.i2b X240.here hx rfl (hb hby at_197) rfl k) ?_
    show Go _ _ _ _ _ _ _ T240 (mkF m 198 #[.val (.int ik), .val (.int if_), .val (.int ix), .val (.long jv), .second, .val (.int ig), .val (.ref b172), .val (.ref b176), .val (.ref ar_236)] [(.int ((((jv.toUInt64 >>> ((40 : Int32) &&& 0x3f).toInt64.toUInt64).toInt64).toInt32).toInt8.toInt32)), (.int (nar .byte ((((jv.toUInt64 >>> ((40 : Int32) &&& 0x3f).toInt64.toUInt64).toInt64).toInt32).toInt8.toInt32)))])
    have hc198_257 : (nar .byte ((((jv.toUInt64 >>> ((40 : Int32) &&& 0x3f).toInt64.toUInt64).toInt64).toInt32).toInt8.toInt32)) = ((((jv.toUInt64 >>> ((40 : Int32) &&& 0x3f).toInt64.toUInt64).toInt64).toInt32).toInt8.toInt32) := own_i2b2 _
    refine Go.step (fun _ k => XS.icmpNo X240.here hx rfl (hb hby at_198) rfl (teq hc198_257).2 k) ?_
    show Go _ _ _ _ _ _ _ T240 (mkF m 201 #[.val (.int ik), .val (.int if_), .val (.int ix), .val (.long jv), .second, .val (.int ig), .val (.ref b172), .val (.ref b176), .val (.ref ar_236)] [])
    refine Go.step (fun _ k => XS.aload X240.here hx rfl (hb hby at_201) rfl rfl k) ?_
    show Go _ _ _ _ _ _ _ T240 (mkF m 203 #[.val (.int ik), .val (.int if_), .val (.int ix), .val (.long jv), .second, .val (.int ig), .val (.ref b172), .val (.ref b176), .val (.ref ar_236)] [(.ref ar_236)])
    refine Go.step (fun _ k => XS.bipush X240.here hx rfl (hb hby at_203) k) ?_
    show Go _ _ _ _ _ _ _ T240 (mkF m 205 #[.val (.int ik), .val (.int if_), .val (.int ix), .val (.long jv), .second, .val (.int ig), .val (.ref b172), .val (.ref b176), .val (.ref ar_236)] [(.int (7 : Int32)), (.ref ar_236)])
    obtain ⟨cl258, Ar258, q258, S258, M258, H258, G258⟩ := id (V1_236)
    have hin258 : ¬ ((7 : Int32) < 0 ∨ cl258.slots.size ≤ ((7 : Int32)).toNatClampNeg) := inb_of S258 ⟨by decide, by decide⟩
    have hat258 : cl258.slots[((7 : Int32)).toNatClampNeg]? = some (.int (nar .byte ((((jv.toUInt64 >>> ((48 : Int32) &&& 0x3f).toInt64.toUInt64).toInt64).toInt32).toInt8.toInt32))) := H258.at hin258 ((pa_236 _ (by decide)).trans ((own_n (by decide)).trans (own_g (by (try simp only [List.length_set]); exact Nat.lt_of_lt_of_le (by decide) (own_64 p6_222 pl_222)))))
    refine Go.step (X240.baloadBytes hx (j := (7 : Int32)) (v := (.int (nar .byte ((((jv.toUInt64 >>> ((48 : Int32) &&& 0x3f).toInt64.toUInt64).toInt64).toInt32).toInt8.toInt32)))) (by rw [e240]; exact Ar258.1) (State.isArrayOf_alike hZ.alike Ar258.2.1) Ar258.2.2 hin258 hat258 (g := (mkF m 205 #[.val (.int ik), .val (.int if_), .val (.int ix), .val (.long jv), .second, .val (.int ig), .val (.ref b172), .val (.ref b176), .val (.ref ar_236)] [(.int (7 : Int32)), (.ref ar_236)])) rfl rfl (hb hby at_205)) ?_
    show Go _ _ _ _ _ _ _ T240 (mkF m 206 #[.val (.int ik), .val (.int if_), .val (.int ix), .val (.long jv), .second, .val (.int ig), .val (.ref b172), .val (.ref b176), .val (.ref ar_236)] [(.int (nar .byte ((((jv.toUInt64 >>> ((48 : Int32) &&& 0x3f).toInt64.toUInt64).toInt64).toInt32).toInt8.toInt32)))])
    refine Go.step (fun _ k => XS.lloadN X240.here hx rfl (hb hby at_206) rfl k) ?_
    show Go _ _ _ _ _ _ _ T240 (mkF m 207 #[.val (.int ik), .val (.int if_), .val (.int ix), .val (.long jv), .second, .val (.int ig), .val (.ref b172), .val (.ref b176), .val (.ref ar_236)] [(.long jv), (.int (nar .byte ((((jv.toUInt64 >>> ((48 : Int32) &&& 0x3f).toInt64.toUInt64).toInt64).toInt32).toInt8.toInt32)))])
    refine Go.step (fun _ k => XS.bipush X240.here hx rfl (hb hby at_207) k) ?_
    show Go _ _ _ _ _ _ _ T240 (mkF m 209 #[.val (.int ik), .val (.int if_), .val (.int ix), .val (.long jv), .second, .val (.int ig), .val (.ref b172), .val (.ref b176), .val (.ref ar_236)] [(.int (48 : Int32)), (.long jv), (.int (nar .byte ((((jv.toUInt64 >>> ((48 : Int32) &&& 0x3f).toInt64.toUInt64).toInt64).toInt32).toInt8.toInt32)))])
    refine Go.step (fun _ k => XS.lushr X240.here hx rfl (hb hby at_209) rfl k) ?_
    show Go _ _ _ _ _ _ _ T240 (mkF m 210 #[.val (.int ik), .val (.int if_), .val (.int ix), .val (.long jv), .second, .val (.int ig), .val (.ref b172), .val (.ref b176), .val (.ref ar_236)] [(.long ((jv.toUInt64 >>> ((48 : Int32) &&& 0x3f).toInt64.toUInt64).toInt64)), (.int (nar .byte ((((jv.toUInt64 >>> ((48 : Int32) &&& 0x3f).toInt64.toUInt64).toInt64).toInt32).toInt8.toInt32)))])
    refine Go.step (fun _ k => XS.l2i X240.here hx rfl (hb hby at_210) rfl k) ?_
    show Go _ _ _ _ _ _ _ T240 (mkF m 211 #[.val (.int ik), .val (.int if_), .val (.int ix), .val (.long jv), .second, .val (.int ig), .val (.ref b172), .val (.ref b176), .val (.ref ar_236)] [(.int (((jv.toUInt64 >>> ((48 : Int32) &&& 0x3f).toInt64.toUInt64).toInt64).toInt32)), (.int (nar .byte ((((jv.toUInt64 >>> ((48 : Int32) &&& 0x3f).toInt64.toUInt64).toInt64).toInt32).toInt8.toInt32)))])
    refine Go.step (fun _ k => XS.i2b X240.here hx rfl (hb hby at_211) rfl k) ?_
    show Go _ _ _ _ _ _ _ T240 (mkF m 212 #[.val (.int ik), .val (.int if_), .val (.int ix), .val (.long jv), .second, .val (.int ig), .val (.ref b172), .val (.ref b176), .val (.ref ar_236)] [(.int ((((jv.toUInt64 >>> ((48 : Int32) &&& 0x3f).toInt64.toUInt64).toInt64).toInt32).toInt8.toInt32)), (.int (nar .byte ((((jv.toUInt64 >>> ((48 : Int32) &&& 0x3f).toInt64.toUInt64).toInt64).toInt32).toInt8.toInt32)))])
    have hc212_259 : (nar .byte ((((jv.toUInt64 >>> ((48 : Int32) &&& 0x3f).toInt64.toUInt64).toInt64).toInt32).toInt8.toInt32)) = ((((jv.toUInt64 >>> ((48 : Int32) &&& 0x3f).toInt64.toUInt64).toInt64).toInt32).toInt8.toInt32) := own_i2b2 _
    refine Go.step (fun _ k => XS.icmpNo X240.here hx rfl (hb hby at_212) rfl (teq hc212_259).2 k) ?_
    show Go _ _ _ _ _ _ _ T240 (mkF m 215 #[.val (.int ik), .val (.int if_), .val (.int ix), .val (.long jv), .second, .val (.int ig), .val (.ref b172), .val (.ref b176), .val (.ref ar_236)] [])
    refine Go.step (fun _ k => XS.aload X240.here hx rfl (hb hby at_215) rfl rfl k) ?_
    show Go _ _ _ _ _ _ _ T240 (mkF m 217 #[.val (.int ik), .val (.int if_), .val (.int ix), .val (.long jv), .second, .val (.int ig), .val (.ref b172), .val (.ref b176), .val (.ref ar_236)] [(.ref ar_236)])
    refine Go.step (fun _ k => XS.bipush X240.here hx rfl (hb hby at_217) k) ?_
    show Go _ _ _ _ _ _ _ T240 (mkF m 219 #[.val (.int ik), .val (.int if_), .val (.int ix), .val (.long jv), .second, .val (.int ig), .val (.ref b172), .val (.ref b176), .val (.ref ar_236)] [(.int (8 : Int32)), (.ref ar_236)])
    obtain ⟨cl260, Ar260, q260, S260, M260, H260, G260⟩ := id (V1_236)
    have hin260 : ¬ ((8 : Int32) < 0 ∨ cl260.slots.size ≤ ((8 : Int32)).toNatClampNeg) := inb_of S260 ⟨by decide, by decide⟩
    have hat260 : cl260.slots[((8 : Int32)).toNatClampNeg]? = some (.int (nar .byte ((((jv.toUInt64 >>> ((56 : Int32) &&& 0x3f).toInt64.toUInt64).toInt64).toInt32).toInt8.toInt32))) := H260.at hin260 ((pa_236 _ (by decide)).trans (own_g (by (try simp only [List.length_set]); exact Nat.lt_of_lt_of_le (by decide) (own_64 p6_222 pl_222))))
    refine Go.step (X240.baloadBytes hx (j := (8 : Int32)) (v := (.int (nar .byte ((((jv.toUInt64 >>> ((56 : Int32) &&& 0x3f).toInt64.toUInt64).toInt64).toInt32).toInt8.toInt32)))) (by rw [e240]; exact Ar260.1) (State.isArrayOf_alike hZ.alike Ar260.2.1) Ar260.2.2 hin260 hat260 (g := (mkF m 219 #[.val (.int ik), .val (.int if_), .val (.int ix), .val (.long jv), .second, .val (.int ig), .val (.ref b172), .val (.ref b176), .val (.ref ar_236)] [(.int (8 : Int32)), (.ref ar_236)])) rfl rfl (hb hby at_219)) ?_
    show Go _ _ _ _ _ _ _ T240 (mkF m 220 #[.val (.int ik), .val (.int if_), .val (.int ix), .val (.long jv), .second, .val (.int ig), .val (.ref b172), .val (.ref b176), .val (.ref ar_236)] [(.int (nar .byte ((((jv.toUInt64 >>> ((56 : Int32) &&& 0x3f).toInt64.toUInt64).toInt64).toInt32).toInt8.toInt32)))])
    refine Go.step (fun _ k => XS.lloadN X240.here hx rfl (hb hby at_220) rfl k) ?_
    show Go _ _ _ _ _ _ _ T240 (mkF m 221 #[.val (.int ik), .val (.int if_), .val (.int ix), .val (.long jv), .second, .val (.int ig), .val (.ref b172), .val (.ref b176), .val (.ref ar_236)] [(.long jv), (.int (nar .byte ((((jv.toUInt64 >>> ((56 : Int32) &&& 0x3f).toInt64.toUInt64).toInt64).toInt32).toInt8.toInt32)))])
    refine Go.step (fun _ k => XS.bipush X240.here hx rfl (hb hby at_221) k) ?_
    show Go _ _ _ _ _ _ _ T240 (mkF m 223 #[.val (.int ik), .val (.int if_), .val (.int ix), .val (.long jv), .second, .val (.int ig), .val (.ref b172), .val (.ref b176), .val (.ref ar_236)] [(.int (56 : Int32)), (.long jv), (.int (nar .byte ((((jv.toUInt64 >>> ((56 : Int32) &&& 0x3f).toInt64.toUInt64).toInt64).toInt32).toInt8.toInt32)))])
    refine Go.step (fun _ k => XS.lushr X240.here hx rfl (hb hby at_223) rfl k) ?_
    show Go _ _ _ _ _ _ _ T240 (mkF m 224 #[.val (.int ik), .val (.int if_), .val (.int ix), .val (.long jv), .second, .val (.int ig), .val (.ref b172), .val (.ref b176), .val (.ref ar_236)] [(.long ((jv.toUInt64 >>> ((56 : Int32) &&& 0x3f).toInt64.toUInt64).toInt64)), (.int (nar .byte ((((jv.toUInt64 >>> ((56 : Int32) &&& 0x3f).toInt64.toUInt64).toInt64).toInt32).toInt8.toInt32)))])
    refine Go.step (fun _ k => XS.l2i X240.here hx rfl (hb hby at_224) rfl k) ?_
    show Go _ _ _ _ _ _ _ T240 (mkF m 225 #[.val (.int ik), .val (.int if_), .val (.int ix), .val (.long jv), .second, .val (.int ig), .val (.ref b172), .val (.ref b176), .val (.ref ar_236)] [(.int (((jv.toUInt64 >>> ((56 : Int32) &&& 0x3f).toInt64.toUInt64).toInt64).toInt32)), (.int (nar .byte ((((jv.toUInt64 >>> ((56 : Int32) &&& 0x3f).toInt64.toUInt64).toInt64).toInt32).toInt8.toInt32)))])
    refine Go.step (fun _ k => XS.i2b X240.here hx rfl (hb hby at_225) rfl k) ?_
    show Go _ _ _ _ _ _ _ T240 (mkF m 226 #[.val (.int ik), .val (.int if_), .val (.int ix), .val (.long jv), .second, .val (.int ig), .val (.ref b172), .val (.ref b176), .val (.ref ar_236)] [(.int ((((jv.toUInt64 >>> ((56 : Int32) &&& 0x3f).toInt64.toUInt64).toInt64).toInt32).toInt8.toInt32)), (.int (nar .byte ((((jv.toUInt64 >>> ((56 : Int32) &&& 0x3f).toInt64.toUInt64).toInt64).toInt32).toInt8.toInt32)))])
    have hc226_261 : (nar .byte ((((jv.toUInt64 >>> ((56 : Int32) &&& 0x3f).toInt64.toUInt64).toInt64).toInt32).toInt8.toInt32)) = ((((jv.toUInt64 >>> ((56 : Int32) &&& 0x3f).toInt64.toUInt64).toInt64).toInt32).toInt8.toInt32) := own_i2b2 _
    refine Go.step (fun _ k => XS.icmpNo X240.here hx rfl (hb hby at_226) rfl (teq hc226_261).2 k) ?_
    show Go _ _ _ _ _ _ _ T240 (mkF m 229 #[.val (.int ik), .val (.int if_), .val (.int ix), .val (.long jv), .second, .val (.int ig), .val (.ref b172), .val (.ref b176), .val (.ref ar_236)] [])
    refine Go.step (fun _ k => XS.iconst X240.here hx rfl (hb hby at_229) k) ?_
    show Go _ _ _ _ _ _ _ T240 (mkF m 230 #[.val (.int ik), .val (.int if_), .val (.int ix), .val (.long jv), .second, .val (.int ig), .val (.ref b172), .val (.ref b176), .val (.ref ar_236)] [(.int (1 : Int32))])
    refine Go.step (fun _ k => XS.goto X240.here hx rfl (pc0 := 230) (pc' := 234) rfl (hb hby at_230) (by decide) (by decide) k) ?_
    show Go _ _ _ _ _ _ _ T240 (mkF m 234 #[.val (.int ik), .val (.int if_), .val (.int ix), .val (.long jv), .second, .val (.int ig), .val (.ref b172), .val (.ref b176), .val (.ref ar_236)] [(.int (1 : Int32))])
    exact Go.retN X240 hx (t := .boolean) hret hlk (by simp) (hb hby at_234) e240 (by decide) (by decide) ⟨rfl, N240, trivial⟩
set_option maxRecDepth 65536 in
set_option maxHeartbeats 40000000 in
theorem comes_1 {Post : Tables → Env → Array Value → State → Outcome → State → Prop} (hpost : ∀ tb e args s v u, (limb_1_1.after args s (.returned v) u = true ∧ limb_1_2.after args s (.returned v) u = true ∧ True) → FrameEnd s (.returned v) u (Jvm.fieldLocs frame_1_writes args s ++ Jvm.arrayLocs frame_1_arrays args s ++ Jvm.staticLocs frame_1_statics s) 24 832 → Post tb e args s (.returned v) u) :
    ArmFor flags0 classFile x code maxLocals ret World_1 tables_1 room_1 Calls_1 rest_1 Pre_1 Post := by
  intro l hfl _ _ p e ha hc hk s m args below hf hA hF happ hP
  obtain ⟨hcalls, hrest, hpre⟩ := hP
  obtain ⟨-, -, -, hnamed, -, -, -, hat⟩ := (Spec.applies_iff hf).mp happ
  obtain ⟨hg, hn⟩ := and_e (Cond.before_iff.mp (show (Jvm.Cond.and given_1 narrow_1).before args s = true from hpre))
  obtain ⟨gg1, gg2⟩ := and_e hg
  obtain ⟨gg3, gg4⟩ := and_e gg2
  obtain ⟨gg5, gg6⟩ := and_e gg4
  obtain ⟨gg7, gg8⟩ := and_e gg6
  obtain ⟨gg9, gg10⟩ := and_e gg8
  obtain ⟨w0, w1, w2, w3, w4, rfl⟩ : ∃ w0 w1 w2 w3 w4 : Value, args = #[w0, w1, w2, w3, w4] := by
    have hs : args.size = 5 := by simpa [Cond.value, given_1] using gg1
    obtain ⟨L⟩ := args
    match L, hs with
    | [w0, w1, w2, w3, w4], _ => exact ⟨w0, w1, w2, w3, w4, rfl⟩
  have hw := fun d (hd : d ∈ tables_1) => atoms_spec (ws := Jvm.Cond.code x code maxLocals ret :: tables_1) hat d (List.mem_cons_of_mem _ hd)
  have hfit : Fit s := fun {y c} hc i hi => by
    obtain ⟨ha, rfl⟩ := Array.getElem?_eq_some_iff.mp hc
    have q := List.all_eq_true.mp ((Array.all_eq_true_iff_forall_mem.mp hF) _ (Array.getElem_mem ha)) i (List.mem_range.mpr hi)
    simpa [Array.getElem?_eq_getElem hi] using q
  obtain ⟨ik, ei0⟩ := is_v gg3
  obtain rfl : w0 = (.int ik) := Option.some.inj ei0
  obtain ⟨if_, ei1⟩ := is_v gg5
  obtain rfl : w1 = (.int if_) := Option.some.inj ei1
  obtain ⟨ix, ei2⟩ := is_v gg7
  obtain rfl : w2 = (.int ix) := Option.some.inj ei2
  obtain ⟨jv, ei3⟩ := isL_v gg9
  obtain rfl : w3 = (.long jv) := Option.some.inj ei3
  obtain ⟨ig, ei4⟩ := is_v gg10
  obtain rfl : w4 = (.int ig) := Option.some.inj ei4
  obtain ⟨n, o, h1, h2, h3, _, L, rfl, ⟨rfl, N, -⟩, hq⟩ := rm0 l s _ hw tables_1 ik if_ ix jv ig s.heap s.heap.size (Nat.le_refl _)  p e ha hc hk s m _ below hf ((Spec.applies_iff_loose hf).mp happ).1 ⟨rfl, State.Warmed39.refl s, rfl⟩ trivial
  refine ⟨n, _, h1, h2, h3, hpost _ _ _ _ _ _ ⟨Cond.after_iff.mpr rfl, Cond.after_iff.mpr (eq_i res_at (Term.int_eval (1)) rfl), trivial⟩ ⟨hq.1, hq.2.1, (hq.2.2.sift fun y hy => Or.inr (N y hy)).mono (by decide) (by decide)⟩⟩
theorem main_1_1 : Claimed_1_1 := comes_1 fun _ _ _ _ _ _ h hF => ⟨h.1, hF⟩
theorem main_1_2 : Claimed_1_2 := comes_1 fun _ _ _ _ _ _ h hF => ⟨h.2.1, hF⟩
end Jvm.Pilot.@@N@@
namespace Jvm.Pilot.@@N@@
open Jvm Jvm.ClassFile Sem Op Lib Jvm.Free Jvm.Stand Jvm.Pilot.@@N@@.Jvm.D
/-! MADE BY PROGRAM (witnessworld.py) out of the Statement's table words and the real class files: 12 classes; the members and pool entries that the words name. The judged class is class 1, her method 1. -/
namespace start1
open Jvm.ClassFile
def u (s : String) : CpInfo := .utf8 (stringToUtf16 s)
/-- a pool by its gaps: so many unusable entries, then the entry; so many at the end -/
def gap : Nat → List CpInfo → List CpInfo
  | 0, r => r
  | n + 1, r => .unusable :: gap n r
def poolList (es : List (Nat × CpInfo)) (last : Nat) : List CpInfo := es.foldr (fun e r => gap e.1 (e.2 :: r)) (gap last [])
def pool (es : List (Nat × CpInfo)) (last : Nat) : Array CpInfo := ⟨poolList es last⟩
def fileOf (pool : Array CpInfo) (this : Nat) (attrs : Array Attribute := #[]) (ms : Array MethodInfo := #[]) (fl : Nat := 33) (sup : Nat := 0) (ifs : Array Nat := #[]) (fds : Array FieldInfo := #[]) : ClassFile where
  minorVersion := 0
  majorVersion := 65
  constantPool := pool
  accessFlags := fl
  thisClass := this
  superClass := sup
  interfaces := ifs
  fields := fds
  methods := ms
  attributes := attrs
def plain (name : String) (sup : Option ClassId) : Class where
  name := name
  kind := .ordinary
  loader := none
  accessFlags := 33
  super := sup
  interfaces := #[]
  cf := none
  fields := #[]
  methods := #[]
  instanceTypes := #[]
  staticTypes := #[]
  resolved := #[]
  callSites := []
  init := .initialized
  statics := none
  mirror := none

def pool0 : Array CpInfo := pool [(5, u "<init>"), (0, u "()V"), (1, .class_ 10), (1, u "java/lang/Object")] 113

def k0c0 : Code := { maxStack := 0, maxLocals := 1, code := object_method_1_code, exceptionTable := #[], attributes := #[] }
def k0m0 : Method := { name := "<init>", desc := "()V", sig := { parameters := [], returnType := none }, accessFlags := 1, code := some k0c0 }
/-- java/lang/Object -/
def k0 : Class := { plain "java/lang/Object" none with
  accessFlags := 33
  interfaces := #[]
  cf := some (fileOf pool0 8 #[] #[{ accessFlags := 1, nameIndex := 5, descriptorIndex := 6, attributes := #[] }] 33 0 #[] #[])
  fields := #[]
  methods := #[k0m0]
  instanceTypes := #[]
  staticTypes := #[]
  resolved := Array.replicate 124 none
  statics := none }

def pool1 : Array CpInfo := pool [(2, .class_ 4), (0, .nameAndType 5 6), (0, u "java/lang/Object"), (0, u "<init>"), (0, u "()V"), (0, .class_ 8), (0, u "com/example/stitchwire/stitchwire/Output"), (0, .methodref 7 3), (0, .methodref 7 11), (0, .nameAndType 12 13), (0, u "writeByte"), (0, u "(I)V"), (0, .methodref 7 15), (0, .nameAndType 16 17), (0, u "writeBytes"), (0, u "([B)V"), (0, .methodref 7 19), (0, .nameAndType 20 13), (0, u "clear"), (0, .methodref 7 22), (0, .nameAndType 23 24), (0, u "size"), (0, u "()I"), (0, .methodref 7 26), (0, .nameAndType 27 28), (0, u "toByteArray"), (0, u "()[B"), (0, .methodref 7 30), (0, .nameAndType 31 32), (0, u "writeFixed64"), (0, u "(J)V"), (0, .class_ 34), (0, u "com/example/stitchwire/stitchwire/OutputClearPinLaw"), (2, u "law"), (0, u "(IIIJI)Z")] 5

def k1m0 : Method := { name := "<init>", desc := "()V", sig := { parameters := [], returnType := none }, accessFlags := 1, code := none }
def k1c1 : Code := { maxStack := 4, maxLocals := 9, code := code, exceptionTable := #[], attributes := #[] }
def k1m1 : Method := { name := "law", desc := "(IIIJI)Z", sig := { parameters := [.int, .int, .int, .long, .int], returnType := some .boolean }, accessFlags := 9, code := some k1c1 }
/-- com/example/stitchwire/stitchwire/OutputClearPinLaw -/
def k1 : Class := { plain "com/example/stitchwire/stitchwire/OutputClearPinLaw" (some 0) with
  accessFlags := 49
  interfaces := #[]
  cf := some (fileOf pool1 33 #[] #[{ accessFlags := 1, nameIndex := 5, descriptorIndex := 6, attributes := #[] }, { accessFlags := 9, nameIndex := 37, descriptorIndex := 38, attributes := #[] }] 49 2 #[] #[])
  fields := #[]
  methods := #[k1m0, k1m1]
  instanceTypes := #[]
  staticTypes := #[]
  resolved := Array.replicate 44 none
  statics := none }

def pool2 : Array CpInfo := pool [(3, .class_ 4), (0, u "com/example/stitchwire/stitchwire/Output"), (0, .methodref 6 7), (0, .class_ 8), (0, .nameAndType 9 10), (0, u "java/lang/Object"), (0, u "<init>"), (0, u "()V"), (0, .fieldref 3 12), (0, .nameAndType 13 14), (0, u "buffer"), (0, u "[B"), (0, .fieldref 3 16), (0, .nameAndType 17 18), (0, u "size"), (0, u "I"), (0, .methodref 20 21), (0, .class_ 22), (0, .nameAndType 23 24), (0, u "java/util/Arrays"), (0, u "copyOf"), (0, u "([BI)[B"), (2, u "$assertionsDisabled"), (0, u "Z"), (28, u "()I"), (0, .methodref 59 60), (0, .class_ 61), (0, .nameAndType 62 63), (0, u "java/lang/System"), (0, u "arraycopy"), (0, u "(Ljava/lang/Object;ILjava/lang/Object;II)V"), (0, .methodref 3 65), (0, .nameAndType 66 67), (0, u "ensureRoom"), (0, u "(I)V"), (11, u "writeByte"), (28, u "(J)V"), (6, .methodref 3 116), (0, .nameAndType 117 118), (0, u "writeLittleEndian"), (0, u "(JI)V"), (49, u "writeBytes"), (0, u "([B)V"), (19, u "LONGS"), (0, u "Ljava/lang/invoke/VarHandle;"), (56, .long 2), (5, .long 2147483639), (9, .methodref 3 264), (0, .nameAndType 265 67), (0, u "grow"), (2, .methodref 269 270), (0, .class_ 271), (0, .nameAndType 272 273), (0, u "java/lang/Math"), (0, u "max"), (0, u "(JJ)J"), (0, .methodref 269 275), (0, .nameAndType 276 273), (0, u "min"), (23, u "MAX_SIZE"), (2, u "EIGHT_QUESTION_MARKS"), (0, u "J"), (0, u "EIGHT_ONES"), (0, u "EIGHT_HIGH_BITS"), (0, u "INITIAL_SIZE"), (1, u "MAX_VARINT_BYTES"), (1, u "MAX_HEAD_BYTES"), (3, u "toByteArray"), (0, u "()[B"), (0, u "clear"), (17, u "writeFixed64")] 36

def k2c0 : Code := { maxStack := 2, maxLocals := 1, code := prog_38_method_1_code, exceptionTable := #[], attributes := #[] }
def k2m0 : Method := { name := "<init>", desc := "()V", sig := { parameters := [], returnType := none }, accessFlags := 0, code := some k2c0 }
def k2c1 : Code := { maxStack := 2, maxLocals := 1, code := prog_38_method_2_code, exceptionTable := #[], attributes := #[] }
def k2m1 : Method := { name := "toByteArray", desc := "()[B", sig := { parameters := [], returnType := some (.array .byte) }, accessFlags := 0, code := some k2c1 }
def k2c2 : Code := { maxStack := 2, maxLocals := 2, code := prog_38_method_3_code, exceptionTable := #[], attributes := #[] }
def k2m2 : Method := { name := "clear", desc := "(I)V", sig := { parameters := [.int], returnType := none }, accessFlags := 0, code := some k2c2 }
def k2c3 : Code := { maxStack := 1, maxLocals := 1, code := prog_38_method_4_code, exceptionTable := #[], attributes := #[] }
def k2m3 : Method := { name := "size", desc := "()I", sig := { parameters := [], returnType := some .int }, accessFlags := 0, code := some k2c3 }
def k2c4 : Code := { maxStack := 5, maxLocals := 2, code := prog_38_method_7_code, exceptionTable := #[], attributes := #[] }
def k2m4 : Method := { name := "writeByte", desc := "(I)V", sig := { parameters := [.int], returnType := none }, accessFlags := 0, code := some k2c4 }
def k2c5 : Code := { maxStack := 5, maxLocals := 2, code := prog_38_method_8_code, exceptionTable := #[], attributes := #[] }
def k2m5 : Method := { name := "writeBytes", desc := "([B)V", sig := { parameters := [(.array .byte)], returnType := none }, accessFlags := 0, code := some k2c5 }
def k2c6 : Code := { maxStack := 4, maxLocals := 3, code := prog_38_method_20_code, exceptionTable := #[], attributes := #[] }
def k2m6 : Method := { name := "writeFixed64", desc := "(J)V", sig := { parameters := [.long], returnType := none }, accessFlags := 0, code := some k2c6 }
def k2c7 : Code := { maxStack := 6, maxLocals := 5, code := prog_38_method_32_code, exceptionTable := #[], attributes := #[] }
def k2m7 : Method := { name := "writeLittleEndian", desc := "(JI)V", sig := { parameters := [.long, .int], returnType := none }, accessFlags := 2, code := some k2c7 }
def k2c8 : Code := { maxStack := 3, maxLocals := 2, code := prog_38_method_33_code, exceptionTable := #[], attributes := #[] }
def k2m8 : Method := { name := "ensureRoom", desc := "(I)V", sig := { parameters := [.int], returnType := none }, accessFlags := 2, code := some k2c8 }
def k2c9 : Code := { maxStack := 10, maxLocals := 4, code := prog_38_method_34_code, exceptionTable := #[], attributes := #[] }
def k2m9 : Method := { name := "grow", desc := "(I)V", sig := { parameters := [.int], returnType := none }, accessFlags := 2, code := some k2c9 }
/-- com/example/stitchwire/stitchwire/Output -/
def k2 : Class := { plain "com/example/stitchwire/stitchwire/Output" (some 0) with
  accessFlags := 48
  interfaces := #[]
  cf := some (fileOf pool2 3 #[] #[{ accessFlags := 0, nameIndex := 9, descriptorIndex := 10, attributes := #[] }, { accessFlags := 0, nameIndex := 315, descriptorIndex := 316, attributes := #[] }, { accessFlags := 0, nameIndex := 317, descriptorIndex := 67, attributes := #[] }, { accessFlags := 0, nameIndex := 17, descriptorIndex := 57, attributes := #[] }, { accessFlags := 0, nameIndex := 79, descriptorIndex := 67, attributes := #[] }, { accessFlags := 0, nameIndex := 168, descriptorIndex := 169, attributes := #[] }, { accessFlags := 0, nameIndex := 335, descriptorIndex := 108, attributes := #[] }, { accessFlags := 2, nameIndex := 117, descriptorIndex := 118, attributes := #[] }, { accessFlags := 2, nameIndex := 66, descriptorIndex := 67, attributes := #[] }, { accessFlags := 2, nameIndex := 265, descriptorIndex := 67, attributes := #[] }] 48 6 #[] #[{ accessFlags := 26, nameIndex := 300, descriptorIndex := 18, attributes := #[] }, { accessFlags := 26, nameIndex := 189, descriptorIndex := 190, attributes := #[] }, { accessFlags := 26, nameIndex := 303, descriptorIndex := 304, attributes := #[] }, { accessFlags := 26, nameIndex := 305, descriptorIndex := 304, attributes := #[] }, { accessFlags := 26, nameIndex := 306, descriptorIndex := 304, attributes := #[] }, { accessFlags := 26, nameIndex := 307, descriptorIndex := 18, attributes := #[] }, { accessFlags := 26, nameIndex := 309, descriptorIndex := 18, attributes := #[] }, { accessFlags := 26, nameIndex := 311, descriptorIndex := 18, attributes := #[] }, { accessFlags := 2, nameIndex := 13, descriptorIndex := 14, attributes := #[] }, { accessFlags := 2, nameIndex := 17, descriptorIndex := 18, attributes := #[] }, { accessFlags := 4120, nameIndex := 27, descriptorIndex := 28, attributes := #[] }])
  fields := #[{ name := "MAX_SIZE", type := .int, accessFlags := 26, slot := 0, constantValue := 0 }, { name := "LONGS", type := (.object "java/lang/invoke/VarHandle"), accessFlags := 26, slot := 1, constantValue := 0 }, { name := "EIGHT_QUESTION_MARKS", type := .long, accessFlags := 26, slot := 2, constantValue := 0 }, { name := "EIGHT_ONES", type := .long, accessFlags := 26, slot := 3, constantValue := 0 }, { name := "EIGHT_HIGH_BITS", type := .long, accessFlags := 26, slot := 4, constantValue := 0 }, { name := "INITIAL_SIZE", type := .int, accessFlags := 26, slot := 5, constantValue := 0 }, { name := "MAX_VARINT_BYTES", type := .int, accessFlags := 26, slot := 6, constantValue := 0 }, { name := "MAX_HEAD_BYTES", type := .int, accessFlags := 26, slot := 7, constantValue := 0 }, { name := "buffer", type := (.array .byte), accessFlags := 2, slot := 0, constantValue := 0 }, { name := "size", type := .int, accessFlags := 2, slot := 1, constantValue := 0 }, { name := "$assertionsDisabled", type := .boolean, accessFlags := 4120, slot := 8, constantValue := 0 }]
  methods := #[k2m0, k2m1, k2m2, k2m3, k2m4, k2m5, k2m6, k2m7, k2m8, k2m9]
  instanceTypes := #[(.array .byte), .int]
  staticTypes := #[.int, (.object "java/lang/invoke/VarHandle"), .long, .long, .long, .int, .int, .int, .boolean]
  resolved := Array.replicate 372 none
  statics := none }

def pool3 : Array CpInfo := pool [(2, .class_ 4), (1, u "java/lang/Object"), (0, u "<init>"), (0, u "()V"), (7, .class_ 16), (1, u "java/util/Arrays"), (57, .class_ 76), (1, u "java/util/Arrays$NaturalOrder"), (36, .class_ 115), (1, u "java/util/Arrays$LegacyMergeSort"), (1, u "Z"), (32, .methodref 151 152), (0, .class_ 153), (0, .nameAndType 154 155), (0, u "java/lang/System"), (0, u "arraycopy"), (0, u "(Ljava/lang/Object;ILjava/lang/Object;II)V"), (146, u "copyOf"), (1, .methodref 305 306), (0, .class_ 307), (0, .nameAndType 308 309), (0, u "java/lang/Math"), (0, u "min"), (0, u "(II)I"), (65, .class_ 376), (0, u "java/util/Arrays$ArrayList"), (68, u "$assertionsDisabled"), (269, u "MIN_ARRAY_SORT_GRAN"), (0, u "I"), (2, u "INSERTIONSORT_THRESHOLD"), (149, u "([BI)[B"), (105, .class_ 976), (0, u "java/util/Arrays$ArrayItr")] 52

def k3m0 : Method := { name := "<init>", desc := "()V", sig := { parameters := [], returnType := none }, accessFlags := 2, code := none }
def k3c1 : Code := { maxStack := 6, maxLocals := 3, code := jdk_65_method_121_code, exceptionTable := #[], attributes := #[] }
def k3m1 : Method := { name := "copyOf", desc := "([BI)[B", sig := { parameters := [(.array .byte), .int], returnType := some (.array .byte) }, accessFlags := 9, code := some k3c1 }
/-- java/util/Arrays -/
def k3 : Class := { plain "java/util/Arrays" (some 0) with
  accessFlags := 49
  interfaces := #[]
  cf := some (fileOf pool3 14 #[.nestMembers #[975, 375, 113, 74]] #[{ accessFlags := 2, nameIndex := 5, descriptorIndex := 6, attributes := #[] }, { accessFlags := 9, nameIndex := 302, descriptorIndex := 869, attributes := #[] }] 49 2 #[] #[{ accessFlags := 26, nameIndex := 715, descriptorIndex := 716, attributes := #[] }, { accessFlags := 26, nameIndex := 719, descriptorIndex := 716, attributes := #[] }, { accessFlags := 4120, nameIndex := 445, descriptorIndex := 117, attributes := #[] }])
  fields := #[{ name := "MIN_ARRAY_SORT_GRAN", type := .int, accessFlags := 26, slot := 0, constantValue := 0 }, { name := "INSERTIONSORT_THRESHOLD", type := .int, accessFlags := 26, slot := 1, constantValue := 0 }, { name := "$assertionsDisabled", type := .boolean, accessFlags := 4120, slot := 2, constantValue := 0 }]
  methods := #[k3m0, k3m1]
  instanceTypes := #[]
  staticTypes := #[.int, .int, .boolean]
  resolved := Array.replicate 1029 none
  statics := none }

def pool4 : Array CpInfo := pool [(1, .class_ 2), (0, u "java/lang/Math"), (1, .class_ 6), (1, u "java/lang/Object"), (0, u "<init>"), (0, u "()V"), (89, .class_ 100), (1, u "java/lang/Math$RandomNumberGeneratorHolder"), (20, u "(JJ)J"), (50, u "negativeZeroFloatBits"), (0, u "J"), (2, u "negativeZeroDoubleBits"), (21, u "max"), (2, u "min"), (43, u "$assertionsDisabled"), (0, u "Z"), (88, u "(II)I"), (2, u "twoToTheDoubleScaleDown"), (0, u "D"), (4, u "twoToTheDoubleScaleUp"), (9, u "E"), (3, u "PI"), (2, u "TAU"), (2, u "DEGREES_TO_RADIANS"), (0, u "RADIANS_TO_DEGREES")] 94

def k4m0 : Method := { name := "<init>", desc := "()V", sig := { parameters := [], returnType := none }, accessFlags := 2, code := none }
def k4c1 : Code := { maxStack := 4, maxLocals := 4, code := jdk_29_method_66_code, exceptionTable := #[], attributes := #[] }
def k4m1 : Method := { name := "max", desc := "(JJ)J", sig := { parameters := [.long, .long], returnType := some .long }, accessFlags := 9, code := some k4c1 }
def k4c2 : Code := { maxStack := 2, maxLocals := 2, code := jdk_29_method_69_code, exceptionTable := #[], attributes := #[] }
def k4m2 : Method := { name := "min", desc := "(II)I", sig := { parameters := [.int, .int], returnType := some .int }, accessFlags := 9, code := some k4c2 }
def k4c3 : Code := { maxStack := 4, maxLocals := 4, code := jdk_29_method_70_code, exceptionTable := #[], attributes := #[] }
def k4m3 : Method := { name := "min", desc := "(JJ)J", sig := { parameters := [.long, .long], returnType := some .long }, accessFlags := 9, code := some k4c3 }
/-- java/lang/Math -/
def k4 : Class := { plain "java/lang/Math" (some 0) with
  accessFlags := 49
  interfaces := #[]
  cf := some (fileOf pool4 1 #[.nestMembers #[98]] #[{ accessFlags := 2, nameIndex := 7, descriptorIndex := 8, attributes := #[] }, { accessFlags := 9, nameIndex := 198, descriptorIndex := 121, attributes := #[] }, { accessFlags := 9, nameIndex := 201, descriptorIndex := 335, attributes := #[] }, { accessFlags := 9, nameIndex := 201, descriptorIndex := 121, attributes := #[] }] 49 4 #[] #[{ accessFlags := 25, nameIndex := 354, descriptorIndex := 339, attributes := #[] }, { accessFlags := 25, nameIndex := 358, descriptorIndex := 339, attributes := #[] }, { accessFlags := 25, nameIndex := 361, descriptorIndex := 339, attributes := #[] }, { accessFlags := 26, nameIndex := 364, descriptorIndex := 339, attributes := #[] }, { accessFlags := 26, nameIndex := 365, descriptorIndex := 339, attributes := #[] }, { accessFlags := 26, nameIndex := 172, descriptorIndex := 173, attributes := #[] }, { accessFlags := 26, nameIndex := 176, descriptorIndex := 173, attributes := #[] }, { accessFlags := 8, nameIndex := 344, descriptorIndex := 339, attributes := #[] }, { accessFlags := 8, nameIndex := 338, descriptorIndex := 339, attributes := #[] }, { accessFlags := 4120, nameIndex := 245, descriptorIndex := 246, attributes := #[] }])
  fields := #[{ name := "E", type := .double, accessFlags := 25, slot := 0, constantValue := 0 }, { name := "PI", type := .double, accessFlags := 25, slot := 1, constantValue := 0 }, { name := "TAU", type := .double, accessFlags := 25, slot := 2, constantValue := 0 }, { name := "DEGREES_TO_RADIANS", type := .double, accessFlags := 26, slot := 3, constantValue := 0 }, { name := "RADIANS_TO_DEGREES", type := .double, accessFlags := 26, slot := 4, constantValue := 0 }, { name := "negativeZeroFloatBits", type := .long, accessFlags := 26, slot := 5, constantValue := 0 }, { name := "negativeZeroDoubleBits", type := .long, accessFlags := 26, slot := 6, constantValue := 0 }, { name := "twoToTheDoubleScaleUp", type := .double, accessFlags := 8, slot := 7, constantValue := 0 }, { name := "twoToTheDoubleScaleDown", type := .double, accessFlags := 8, slot := 8, constantValue := 0 }, { name := "$assertionsDisabled", type := .boolean, accessFlags := 4120, slot := 9, constantValue := 0 }]
  methods := #[k4m0, k4m1, k4m2, k4m3]
  instanceTypes := #[]
  staticTypes := #[.double, .double, .double, .double, .double, .long, .long, .double, .double, .boolean]
  resolved := Array.replicate 460 none
  statics := none }

def pool5 : Array CpInfo := pool [(2, .class_ 4), (1, u "java/lang/Object"), (0, u "<init>"), (0, u "()V"), (1, .class_ 10), (1, u "java/lang/System"), (0, u "allowSecurityManager"), (0, u "I"), (16, u "cons"), (0, u "Ljava/io/Console;"), (77, .class_ 110), (1, u "java/lang/System$CallersHolder"), (43, u "initialErrStream"), (0, u "Ljava/io/PrintStream;"), (19, u "security"), (0, u "Ljava/lang/SecurityManager;"), (31, .class_ 209), (0, u "java/lang/System$1"), (7, u "props"), (0, u "Ljava/util/Properties;"), (2, u "lineSeparator"), (0, u "Ljava/lang/String;"), (96, .class_ 321), (1, u "java/lang/System$LoggerFinder"), (5, .class_ 328), (0, u "java/lang/System$Logger"), (67, u "err"), (2, u "out"), (91, u "notSupportedJnuEncoding"), (15, u "in"), (17, u "initialIn"), (0, u "Ljava/io/InputStream;"), (35, u "bootLayer"), (0, u "Ljava/lang/ModuleLayer;"), (99, .class_ 664), (0, u "java/lang/System$2"), (9, u "NEVER"), (2, u "MAYBE"), (49, u "arraycopy"), (0, u "(Ljava/lang/Object;ILjava/lang/Object;II)V"), (72, .class_ 802), (0, u "java/lang/System$Logger$Level")] 31

def k5m0 : Method := { name := "<init>", desc := "()V", sig := { parameters := [], returnType := none }, accessFlags := 2, code := none }
def k5m1 : Method := { name := "arraycopy", desc := "(Ljava/lang/Object;ILjava/lang/Object;II)V", sig := { parameters := [(.object "java/lang/Object"), .int, (.object "java/lang/Object"), .int, .int], returnType := none }, accessFlags := 265, code := none }
/-- java/lang/System -/
def k5 : Class := { plain "java/lang/System" (some 0) with
  accessFlags := 49
  interfaces := #[]
  cf := some (fileOf pool5 8 #[.nestMembers #[319, 327, 801, 108, 663, 208]] #[{ accessFlags := 2, nameIndex := 5, descriptorIndex := 6, attributes := #[] }, { accessFlags := 265, nameIndex := 727, descriptorIndex := 728, attributes := #[] }] 49 2 #[] #[{ accessFlags := 25, nameIndex := 507, descriptorIndex := 526, attributes := #[] }, { accessFlags := 25, nameIndex := 399, descriptorIndex := 155, attributes := #[] }, { accessFlags := 25, nameIndex := 396, descriptorIndex := 155, attributes := #[] }, { accessFlags := 10, nameIndex := 525, descriptorIndex := 526, attributes := #[] }, { accessFlags := 26, nameIndex := 674, descriptorIndex := 12, attributes := #[] }, { accessFlags := 26, nameIndex := 677, descriptorIndex := 12, attributes := #[] }, { accessFlags := 10, nameIndex := 11, descriptorIndex := 12, attributes := #[] }, { accessFlags := 74, nameIndex := 175, descriptorIndex := 176, attributes := #[] }, { accessFlags := 10, nameIndex := 491, descriptorIndex := 222, attributes := #[] }, { accessFlags := 74, nameIndex := 29, descriptorIndex := 30, attributes := #[] }, { accessFlags := 74, nameIndex := 154, descriptorIndex := 155, attributes := #[] }, { accessFlags := 10, nameIndex := 217, descriptorIndex := 218, attributes := #[] }, { accessFlags := 10, nameIndex := 221, descriptorIndex := 222, attributes := #[] }, { accessFlags := 8, nameIndex := 562, descriptorIndex := 563, attributes := #[] }])
  fields := #[{ name := "in", type := (.object "java/io/InputStream"), accessFlags := 25, slot := 0, constantValue := 0 }, { name := "out", type := (.object "java/io/PrintStream"), accessFlags := 25, slot := 1, constantValue := 0 }, { name := "err", type := (.object "java/io/PrintStream"), accessFlags := 25, slot := 2, constantValue := 0 }, { name := "initialIn", type := (.object "java/io/InputStream"), accessFlags := 10, slot := 3, constantValue := 0 }, { name := "NEVER", type := .int, accessFlags := 26, slot := 4, constantValue := 0 }, { name := "MAYBE", type := .int, accessFlags := 26, slot := 5, constantValue := 0 }, { name := "allowSecurityManager", type := .int, accessFlags := 10, slot := 6, constantValue := 0 }, { name := "security", type := (.object "java/lang/SecurityManager"), accessFlags := 74, slot := 7, constantValue := 0 }, { name := "notSupportedJnuEncoding", type := (.object "java/lang/String"), accessFlags := 10, slot := 8, constantValue := 0 }, { name := "cons", type := (.object "java/io/Console"), accessFlags := 74, slot := 9, constantValue := 0 }, { name := "initialErrStream", type := (.object "java/io/PrintStream"), accessFlags := 74, slot := 10, constantValue := 0 }, { name := "props", type := (.object "java/util/Properties"), accessFlags := 10, slot := 11, constantValue := 0 }, { name := "lineSeparator", type := (.object "java/lang/String"), accessFlags := 10, slot := 12, constantValue := 0 }, { name := "bootLayer", type := (.object "java/lang/ModuleLayer"), accessFlags := 8, slot := 13, constantValue := 0 }]
  methods := #[k5m0, k5m1]
  instanceTypes := #[]
  staticTypes := #[(.object "java/io/InputStream"), (.object "java/io/PrintStream"), (.object "java/io/PrintStream"), (.object "java/io/InputStream"), .int, .int, .int, (.object "java/lang/SecurityManager"), (.object "java/lang/String"), (.object "java/io/Console"), (.object "java/io/PrintStream"), (.object "java/util/Properties"), (.object "java/lang/String"), (.object "java/lang/ModuleLayer")]
  resolved := Array.replicate 834 none
  statics := none }

def pool6 : Array CpInfo := pool [(1, u "java/lang/Cloneable"), (0, .class_ 1), (0, u "java/lang/Object"), (0, .class_ 3)] 3

/-- java/lang/Cloneable -/
def k6 : Class := { plain "java/lang/Cloneable" (some 0) with
  accessFlags := 1537
  interfaces := #[]
  cf := some (fileOf pool6 2 #[] #[] 1537 4 #[] #[])
  fields := #[]
  methods := #[]
  instanceTypes := #[]
  staticTypes := #[]
  resolved := Array.replicate 8 none
  statics := none }

def pool7 : Array CpInfo := pool [(1, u "java/io/Serializable"), (0, .class_ 1), (0, u "java/lang/Object"), (0, .class_ 3)] 3

/-- java/io/Serializable -/
def k7 : Class := { plain "java/io/Serializable" (some 0) with
  accessFlags := 1537
  interfaces := #[]
  cf := some (fileOf pool7 2 #[] #[] 1537 4 #[] #[])
  fields := #[]
  methods := #[]
  instanceTypes := #[]
  staticTypes := #[]
  resolved := Array.replicate 8 none
  statics := none }

/-- the primitive byte -/
def k8 : Class := { plain "byte" none with kind := .primitive 'B', accessFlags := 0x411 }
/-- [B -/
def k9 : Class := { plain "[B" (some 0) with kind := .array 8 .byte, interfaces := #[6, 7], accessFlags := 1041 }

/-- the primitive int -/
def k10 : Class := { plain "int" none with kind := .primitive 'I', accessFlags := 0x411 }
/-- [I -/
def k11 : Class := { plain "[I" (some 0) with kind := .array 10 .int, interfaces := #[6, 7], accessFlags := 1041 }

def heap : Heap := #[]
def classes : Array Class := #[k0, k1, k2, k3, k4, k5, k6, k7, k8, k9, k10, k11]
def interned : List (Array UInt16 × Addr) := []
def slotsUsed : Nat := 0
def theMethod : MethodId := ⟨1, 1⟩
def args0 : Array Value := #[.int 5, .int 7, .int 3, .long 2, .int 1]
def aboutOver (below : List Frame) : State where
  vm := { classes := classes, interned := interned.toArray }
  heap := heap
  slotsUsed := slotsUsed
  threads := #[{ frames := .invoking theMethod args0 :: below }]
def below0 : List Frame := [.native { method := ⟨0, 0⟩, args := #[] }]
def about1 : State := aboutOver below0
def p0 : Program := .bare "" "" ""
def e0 : Env := launch0.env 0 0 0
theorem w_frames : about1.frames = Frame.invoking theMethod args0 :: below0 := rfl
set_option maxRecDepth 65536 in
theorem w_args : argsFit about1.vm theMethod args0 = true := by decide +kernel
set_option maxRecDepth 65536 in
theorem w_heap : heapFits about1 = true := by decide +kernel
set_option maxRecDepth 65536 in
theorem w_runnable : about1.curStatus? = some .runnable := by decide +kernel
set_option maxRecDepth 65536 in
theorem w_alone : about1.alone = true := by decide +kernel
set_option maxRecDepth 65536 in
theorem w_named : about1.methodNamed? x = some theMethod := by decide +kernel
set_option maxRecDepth 65536 in
theorem w_hears : about1.hears theMethod below0 = true := by decide +kernel
set_option maxRecDepth 65536 in
theorem w_ripe : about1.ripe theMethod args0 below0 = true := by decide +kernel
theorem w_running : about1.status = .running := rfl
set_option maxRecDepth 65536 in
theorem w_room : about1.hasRoom e0.platform room_1 = true :=
  launch0.hasRoom_least _ room_1 (by decide +kernel) (by decide +kernel) (by decide +kernel) (by decide +kernel) (by decide +kernel) (by decide +kernel)
theorem allAtoms_all (ts : List Jvm.Cond) (a : Array Jvm.Value) (st : Jvm.State) : (allAtoms ts).before a st = ts.all (fun c => c.before a st) := by
  induction ts with
  | nil => rfl
  | cons c t ih =>
    show (Jvm.Cond.and c (allAtoms t)).before a st = _
    rw [Jvm.Cond.before_and, ih, List.all_cons]
def words1 : List Jvm.Cond := Jvm.Cond.code x code maxLocals ret :: tables_1
/-- a 'code' word, met by the world's own term for the bytes: nothing is compared byte by byte -/
theorem code_word {y : MethodName} {bytes : ByteArray} {mx : Nat} {rt : Option FieldType} {a : Array Value} {s : State} {m : MethodId} {meth : Method} {c : Code} (h1 : s.methodNamed? y = some m) (h2 : s.vm.method? m = some meth) (h3 : meth.code = some c) (h4 : c.code = bytes)
    (h5 : (c.maxLocals == mx && c.exceptionTable.isEmpty && decide (c.maxStack ≤ mostOperands) && decide (meth.sig.returnType = rt) && !meth.locks && decide (parseMethodDescriptor y.desc = some meth.sig)) = true) : (Jvm.Cond.code y bytes mx rt).before a s = true := by
  simp only [Bool.and_eq_true, beq_iff_eq, Bool.not_eq_true', decide_eq_true_eq] at h5
  obtain ⟨⟨⟨⟨⟨g1, g2⟩, g3⟩, g4⟩, g5⟩, g6⟩ := h5
  simp [Cond.before, Cond.holds, Cond.value, h1, h2, h3, h4, g1, g2, g3, g4, g5, g6]
def isCode : Jvm.Cond → Bool
  | .code _ _ _ _ => true
  | _ => false
theorem all_split {L : List Jvm.Cond} {P : Jvm.Cond → Bool} (h1 : L.all (fun c => isCode c || P c) = true) (h2 : ∀ c ∈ L.filter isCode, P c = true) : L.all P = true := by
  refine List.all_eq_true.mpr fun c hc => ?_
  have h := List.all_eq_true.mp h1 c hc
  rcases Bool.eq_false_or_eq_true (isCode c) with hi | hi
  · exact h2 c (List.mem_filter.mpr ⟨hc, hi⟩)
  · simpa [hi] using h
set_option maxRecDepth 65536 in
theorem w_c0 : (Jvm.Cond.code x code maxLocals ret).before args0 about1 = true := code_word (m := ⟨1, 1⟩) (meth := k1m1) (c := k1c1) (by decide +kernel) rfl rfl rfl (by decide +kernel)
set_option maxRecDepth 65536 in
theorem w_c1 : (Jvm.Cond.code ({ cls := "com/example/stitchwire/stitchwire/Output", name := "<init>", desc := "()V" } : Jvm.MethodName) prog_38_method_1_code (1 : Nat) (Option.none : Option Jvm.ClassFile.FieldType)).before args0 about1 = true := code_word (m := ⟨2, 0⟩) (meth := k2m0) (c := k2c0) (by decide +kernel) rfl rfl rfl (by decide +kernel)
set_option maxRecDepth 65536 in
theorem w_c2 : (Jvm.Cond.code ({ cls := "java/lang/Object", name := "<init>", desc := "()V" } : Jvm.MethodName) object_method_1_code (1 : Nat) (Option.none : Option Jvm.ClassFile.FieldType)).before args0 about1 = true := code_word (m := ⟨0, 0⟩) (meth := k0m0) (c := k0c0) (by decide +kernel) rfl rfl rfl (by decide +kernel)
set_option maxRecDepth 65536 in
theorem w_c3 : (Jvm.Cond.code ({ cls := "com/example/stitchwire/stitchwire/Output", name := "writeByte", desc := "(I)V" } : Jvm.MethodName) prog_38_method_7_code (2 : Nat) (Option.none : Option Jvm.ClassFile.FieldType)).before args0 about1 = true := code_word (m := ⟨2, 4⟩) (meth := k2m4) (c := k2c4) (by decide +kernel) rfl rfl rfl (by decide +kernel)
set_option maxRecDepth 65536 in
theorem w_c4 : (Jvm.Cond.code ({ cls := "com/example/stitchwire/stitchwire/Output", name := "ensureRoom", desc := "(I)V" } : Jvm.MethodName) prog_38_method_33_code (2 : Nat) (Option.none : Option Jvm.ClassFile.FieldType)).before args0 about1 = true := code_word (m := ⟨2, 8⟩) (meth := k2m8) (c := k2c8) (by decide +kernel) rfl rfl rfl (by decide +kernel)
set_option maxRecDepth 65536 in
theorem w_c5 : (Jvm.Cond.code ({ cls := "com/example/stitchwire/stitchwire/Output", name := "clear", desc := "(I)V" } : Jvm.MethodName) prog_38_method_3_code (2 : Nat) (Option.none : Option Jvm.ClassFile.FieldType)).before args0 about1 = true := code_word (m := ⟨2, 2⟩) (meth := k2m2) (c := k2c2) (by decide +kernel) rfl rfl rfl (by decide +kernel)
set_option maxRecDepth 65536 in
theorem w_c6 : (Jvm.Cond.code ({ cls := "com/example/stitchwire/stitchwire/Output", name := "size", desc := "()I" } : Jvm.MethodName) prog_38_method_4_code (1 : Nat) (Option.some Jvm.ClassFile.FieldType.int)).before args0 about1 = true := code_word (m := ⟨2, 3⟩) (meth := k2m3) (c := k2c3) (by decide +kernel) rfl rfl rfl (by decide +kernel)
set_option maxRecDepth 65536 in
theorem w_c7 : (Jvm.Cond.code ({ cls := "com/example/stitchwire/stitchwire/Output", name := "toByteArray", desc := "()[B" } : Jvm.MethodName) prog_38_method_2_code (1 : Nat) (Option.some (Jvm.ClassFile.FieldType.array Jvm.ClassFile.FieldType.byte))).before args0 about1 = true := code_word (m := ⟨2, 1⟩) (meth := k2m1) (c := k2c1) (by decide +kernel) rfl rfl rfl (by decide +kernel)
set_option maxRecDepth 65536 in
theorem w_c8 : (Jvm.Cond.code ({ cls := "java/util/Arrays", name := "copyOf", desc := "([BI)[B" } : Jvm.MethodName) jdk_65_method_121_code (3 : Nat) (Option.some (Jvm.ClassFile.FieldType.array Jvm.ClassFile.FieldType.byte))).before args0 about1 = true := code_word (m := ⟨3, 1⟩) (meth := k3m1) (c := k3c1) (by decide +kernel) rfl rfl rfl (by decide +kernel)
set_option maxRecDepth 65536 in
theorem w_c9 : (Jvm.Cond.code ({ cls := "java/lang/Math", name := "min", desc := "(II)I" } : Jvm.MethodName) jdk_29_method_69_code (2 : Nat) (Option.some Jvm.ClassFile.FieldType.int)).before args0 about1 = true := code_word (m := ⟨4, 2⟩) (meth := k4m2) (c := k4c2) (by decide +kernel) rfl rfl rfl (by decide +kernel)
set_option maxRecDepth 65536 in
theorem w_c10 : (Jvm.Cond.code ({ cls := "com/example/stitchwire/stitchwire/Output", name := "writeFixed64", desc := "(J)V" } : Jvm.MethodName) prog_38_method_20_code (3 : Nat) (Option.none : Option Jvm.ClassFile.FieldType)).before args0 about1 = true := code_word (m := ⟨2, 6⟩) (meth := k2m6) (c := k2c6) (by decide +kernel) rfl rfl rfl (by decide +kernel)
set_option maxRecDepth 65536 in
theorem w_c11 : (Jvm.Cond.code ({ cls := "com/example/stitchwire/stitchwire/Output", name := "writeLittleEndian", desc := "(JI)V" } : Jvm.MethodName) prog_38_method_32_code (5 : Nat) (Option.none : Option Jvm.ClassFile.FieldType)).before args0 about1 = true := code_word (m := ⟨2, 7⟩) (meth := k2m7) (c := k2c7) (by decide +kernel) rfl rfl rfl (by decide +kernel)
set_option maxRecDepth 65536 in
theorem w_c12 : (Jvm.Cond.code ({ cls := "com/example/stitchwire/stitchwire/Output", name := "writeBytes", desc := "([B)V" } : Jvm.MethodName) prog_38_method_8_code (2 : Nat) (Option.none : Option Jvm.ClassFile.FieldType)).before args0 about1 = true := code_word (m := ⟨2, 5⟩) (meth := k2m5) (c := k2c5) (by decide +kernel) rfl rfl rfl (by decide +kernel)
set_option maxRecDepth 65536 in
theorem w_c13 : (Jvm.Cond.code ({ cls := "com/example/stitchwire/stitchwire/Output", name := "grow", desc := "(I)V" } : Jvm.MethodName) prog_38_method_34_code (4 : Nat) (Option.none : Option Jvm.ClassFile.FieldType)).before args0 about1 = true := code_word (m := ⟨2, 9⟩) (meth := k2m9) (c := k2c9) (by decide +kernel) rfl rfl rfl (by decide +kernel)
set_option maxRecDepth 65536 in
theorem w_c14 : (Jvm.Cond.code ({ cls := "java/lang/Math", name := "max", desc := "(JJ)J" } : Jvm.MethodName) jdk_29_method_66_code (4 : Nat) (Option.some Jvm.ClassFile.FieldType.long)).before args0 about1 = true := code_word (m := ⟨4, 1⟩) (meth := k4m1) (c := k4c1) (by decide +kernel) rfl rfl rfl (by decide +kernel)
set_option maxRecDepth 65536 in
theorem w_c15 : (Jvm.Cond.code ({ cls := "java/lang/Math", name := "min", desc := "(JJ)J" } : Jvm.MethodName) jdk_29_method_70_code (4 : Nat) (Option.some Jvm.ClassFile.FieldType.long)).before args0 about1 = true := code_word (m := ⟨4, 3⟩) (meth := k4m3) (c := k4c3) (by decide +kernel) rfl rfl rfl (by decide +kernel)
def codes1 : List Jvm.Cond := [Jvm.Cond.code x code maxLocals ret, Jvm.Cond.code ({ cls := "com/example/stitchwire/stitchwire/Output", name := "<init>", desc := "()V" } : Jvm.MethodName) prog_38_method_1_code (1 : Nat) (Option.none : Option Jvm.ClassFile.FieldType), Jvm.Cond.code ({ cls := "java/lang/Object", name := "<init>", desc := "()V" } : Jvm.MethodName) object_method_1_code (1 : Nat) (Option.none : Option Jvm.ClassFile.FieldType), Jvm.Cond.code ({ cls := "com/example/stitchwire/stitchwire/Output", name := "writeByte", desc := "(I)V" } : Jvm.MethodName) prog_38_method_7_code (2 : Nat) (Option.none : Option Jvm.ClassFile.FieldType), Jvm.Cond.code ({ cls := "com/example/stitchwire/stitchwire/Output", name := "ensureRoom", desc := "(I)V" } : Jvm.MethodName) prog_38_method_33_code (2 : Nat) (Option.none : Option Jvm.ClassFile.FieldType), Jvm.Cond.code ({ cls := "com/example/stitchwire/stitchwire/Output", name := "clear", desc := "(I)V" } : Jvm.MethodName) prog_38_method_3_code (2 : Nat) (Option.none : Option Jvm.ClassFile.FieldType), Jvm.Cond.code ({ cls := "com/example/stitchwire/stitchwire/Output", name := "size", desc := "()I" } : Jvm.MethodName) prog_38_method_4_code (1 : Nat) (Option.some Jvm.ClassFile.FieldType.int), Jvm.Cond.code ({ cls := "com/example/stitchwire/stitchwire/Output", name := "toByteArray", desc := "()[B" } : Jvm.MethodName) prog_38_method_2_code (1 : Nat) (Option.some (Jvm.ClassFile.FieldType.array Jvm.ClassFile.FieldType.byte)), Jvm.Cond.code ({ cls := "java/util/Arrays", name := "copyOf", desc := "([BI)[B" } : Jvm.MethodName) jdk_65_method_121_code (3 : Nat) (Option.some (Jvm.ClassFile.FieldType.array Jvm.ClassFile.FieldType.byte)), Jvm.Cond.code ({ cls := "java/lang/Math", name := "min", desc := "(II)I" } : Jvm.MethodName) jdk_29_method_69_code (2 : Nat) (Option.some Jvm.ClassFile.FieldType.int), Jvm.Cond.code ({ cls := "com/example/stitchwire/stitchwire/Output", name := "writeFixed64", desc := "(J)V" } : Jvm.MethodName) prog_38_method_20_code (3 : Nat) (Option.none : Option Jvm.ClassFile.FieldType), Jvm.Cond.code ({ cls := "com/example/stitchwire/stitchwire/Output", name := "writeLittleEndian", desc := "(JI)V" } : Jvm.MethodName) prog_38_method_32_code (5 : Nat) (Option.none : Option Jvm.ClassFile.FieldType), Jvm.Cond.code ({ cls := "com/example/stitchwire/stitchwire/Output", name := "writeBytes", desc := "([B)V" } : Jvm.MethodName) prog_38_method_8_code (2 : Nat) (Option.none : Option Jvm.ClassFile.FieldType), Jvm.Cond.code ({ cls := "com/example/stitchwire/stitchwire/Output", name := "grow", desc := "(I)V" } : Jvm.MethodName) prog_38_method_34_code (4 : Nat) (Option.none : Option Jvm.ClassFile.FieldType), Jvm.Cond.code ({ cls := "java/lang/Math", name := "max", desc := "(JJ)J" } : Jvm.MethodName) jdk_29_method_66_code (4 : Nat) (Option.some Jvm.ClassFile.FieldType.long), Jvm.Cond.code ({ cls := "java/lang/Math", name := "min", desc := "(JJ)J" } : Jvm.MethodName) jdk_29_method_70_code (4 : Nat) (Option.some Jvm.ClassFile.FieldType.long)]
set_option maxRecDepth 65536 in
theorem codes_eq : words1.filter isCode = codes1 := rfl
theorem w_codes : ∀ c ∈ words1.filter isCode, c.before args0 about1 = true := by
  rw [codes_eq]
  intro c hc
  simp only [codes1, List.mem_cons, List.not_mem_nil, or_false] at hc
  rcases hc with rfl | rfl | rfl | rfl | rfl | rfl | rfl | rfl | rfl | rfl | rfl | rfl | rfl | rfl | rfl | rfl
  · exact w_c0
  · exact w_c1
  · exact w_c2
  · exact w_c3
  · exact w_c4
  · exact w_c5
  · exact w_c6
  · exact w_c7
  · exact w_c8
  · exact w_c9
  · exact w_c10
  · exact w_c11
  · exact w_c12
  · exact w_c13
  · exact w_c14
  · exact w_c15
set_option maxRecDepth 65536 in
theorem w_t1 : (words1.take 24).all (fun c => isCode c || c.before args0 about1) = true := by decide +kernel
set_option maxRecDepth 65536 in
theorem w_t2 : ((words1.drop 24).take 24).all (fun c => isCode c || c.before args0 about1) = true := by decide +kernel
set_option maxRecDepth 65536 in
theorem w_t3 : (((words1.drop 24).drop 24).take 24).all (fun c => isCode c || c.before args0 about1) = true := by decide +kernel
set_option maxRecDepth 65536 in
theorem w_t4 : (((words1.drop 24).drop 24).drop 24).all (fun c => isCode c || c.before args0 about1) = true := by decide +kernel
theorem w_tables : (allAtoms (Jvm.Cond.code x code maxLocals ret :: tables_1)).before args0 about1 = true := by
  rw [allAtoms_all]
  show words1.all (fun c => c.before args0 about1) = true
  refine all_split ?_ w_codes
  rw [← List.take_append_drop 24 words1, List.all_append, w_t1, ← List.take_append_drop 24 (words1.drop 24), List.all_append, w_t2, ← List.take_append_drop 24 ((words1.drop 24).drop 24), List.all_append, w_t3, w_t4]
  rfl
set_option maxRecDepth 65536 in
theorem w_case : (Jvm.Cond.and given_1 narrow_1).before args0 about1 = true := by decide +kernel
theorem w_applies : (headSpec (Jvm.Cond.code x code maxLocals ret :: tables_1) room_1).applies x e0.platform about1 = true :=
  (Spec.applies_iff w_frames).mpr ⟨w_running, w_runnable, w_alone, w_named, w_hears, w_ripe, w_room, w_tables⟩
theorem atStart : AtStart classFile x code maxLocals ret World_1 tables_1 room_1 Calls_1 rest_1 Pre_1 launch0 p0 e0 about1 theMethod args0 below0 :=
  ⟨lists_1, trivial, launch0.admits_env _ _ _, launch0.least_env, fairChoices_fair.cas, fairChoices_fair.clock, w_frames, w_args, w_heap, w_applies, trivial, trivial, w_case⟩
end start1
theorem witness_1 : WitnessClaimed_1 := ⟨start1.p0, start1.e0, start1.about1, start1.theMethod, start1.args0, start1.below0, start1.atStart⟩
end Jvm.Pilot.@@N@@
