import JvmDerived
import JvmDerived.Pilot.@@N@@Statement
import JvmDerived.Pilot.@@N@@Code
set_option linter.unusedVariables false
set_option linter.unusedSimpArgs false
namespace Jvm.RoadKit
open Sem ClassFile Op Lib Jvm.Stand Jvm.Free Jvm.LawKit
section OwnGo
variable {p : Program} {l : Launch} {e : Env} {R : Room} {s : State} {m : MethodId} {args : Array Value} {below : List Frame} {meth : Method} {c : Code} {T T' : State} {locs : List Loc} {cells slots kc ks : Nat} {Q : Option Value → Heap → List Loc → Prop} {f f' : JFrame} {h : Heap}
/-- from the state T with the top frame f the body comes to its end, and what it leaves meets Q -/
def Go (p : Program) (e : Env) (below : List Frame) (s : State) (kc ks : Nat) (Q : Option Value → Heap → List Loc → Prop) (T : State) (f : JFrame) : Prop :=
  ∃ (s₂ : State) (o : Outcome), Steps p.tables e below (T.setTop f) s₂ ∧ s₂.status = .running ∧ Ended s₂ below o ∧ ∃ v L, o = .returned v ∧ Q v s₂.heap L ∧ FrameEnd s o s₂ L kc ks
theorem Go.step (h : ∀ target, Steps p.tables e below (T'.setTop f') target → Steps p.tables e below (T.setTop f) target) (k : Go p e below s kc ks Q T' f') : Go p e below s kc ks Q T f := by
  obtain ⟨s₂, o, h1, r⟩ := k
  exact ⟨s₂, o, h _ h1, r⟩
theorem Go.trans (h : Steps p.tables e below (T.setTop f) (T'.setTop f')) (k : Go p e below s kc ks Q T' f') : Go p e below s kc ks Q T f := by
  obtain ⟨s₂, o, h1, r⟩ := k
  exact ⟨s₂, o, h.trans h1, r⟩
theorem Go.cast (q : f = f') (k : Go p e below s kc ks Q T f') : Go p e below s kc ks Q T f := q ▸ k
theorem Go.enter {g : JFrame} {s₁ : State} (k : Go p e below s kc ks Q s₁ f) (q : g = f) :
    ∃ s₂ o, Steps p.tables e below (s₁.setTop g) s₂ ∧ s₂.status = .running ∧ Ended s₂ below o ∧ ∃ v L, o = .returned v ∧ Q v s₂.heap L ∧ FrameEnd s o s₂ L kc ks := by
  subst q; exact k
theorem Go.ret (X : Stand p l e R s m args below meth c T locs cells slots) (hx : p.tables.exec = Jvm.exec) {pc : Nat} {Ls : Array Slot} {w : Value} {t : FieldType} {i : Instr} {rest : List Value} (hret : meth.sig.returnType = some t) (hlk : meth.locks = false) (hn : narrow t w = w)
    (hi : (i = .ireturn ∧ (t = .int ∨ t = .boolean ∨ t = .byte ∨ t = .char ∨ t = .short) ∧ ∃ z, w = .int z) ∨ (i = .lreturn ∧ t = .long ∧ ∃ z, w = .long z) ∨ (i = .dreturn ∧ t = .double ∧ ∃ z, w = .double z) ∨ (i = .freturn ∧ t = .float ∧ ∃ z, w = .float z) ∨ (i = .areturn ∧ t.isReference = true ∧ w.isRef = true))
    (hd : decode c.code pc = .ok (i, 1)) (eT : T.heap = h) (hc : cells ≤ kc) (hs : slots ≤ ks) (hQ : Q (some w) h locs) : Go p e below s kc ks Q T (mkF m pc Ls (w :: rest)) := by
  obtain ⟨fs, hr, hrun, hended, hW, hsame⟩ := X.leave (v := some w) (fun q => by rw [hret] at q; cases q) hlk
  exact ⟨_, _, retOut X hx hret hn hi hd hr, hrun, hended, _, _, rfl, (by subst eT; exact hQ), ⟨_, rfl⟩, hW, hsame.mono hc hs⟩
theorem Go.retI (X : Stand p l e R s m args below meth c T locs cells slots) (hx : p.tables.exec = Jvm.exec) {pc : Nat} {Ls : Array Slot} {z : Int32} {rest : List Value} (hret : meth.sig.returnType = some .int) (hlk : meth.locks = false)
    (hd : decode c.code pc = .ok (.ireturn, 1)) (eT : T.heap = h) (hc : cells ≤ kc) (hs : slots ≤ ks) (hQ : Q (some (.int z)) h locs) : Go p e below s kc ks Q T (mkF m pc Ls (.int z :: rest)) :=
  Go.ret X hx hret hlk rfl (Or.inl ⟨rfl, Or.inl rfl, _, rfl⟩) hd eT hc hs hQ
theorem Go.retJ (X : Stand p l e R s m args below meth c T locs cells slots) (hx : p.tables.exec = Jvm.exec) {pc : Nat} {Ls : Array Slot} {z : Int64} {rest : List Value} (hret : meth.sig.returnType = some .long) (hlk : meth.locks = false)
    (hd : decode c.code pc = .ok (.lreturn, 1)) (eT : T.heap = h) (hc : cells ≤ kc) (hs : slots ≤ ks) (hQ : Q (some (.long z)) h locs) : Go p e below s kc ks Q T (mkF m pc Ls (.long z :: rest)) :=
  Go.ret X hx hret hlk rfl (Or.inr (Or.inl ⟨rfl, rfl, _, rfl⟩)) hd eT hc hs hQ
theorem Go.retA (X : Stand p l e R s m args below meth c T locs cells slots) (hx : p.tables.exec = Jvm.exec) {pc : Nat} {Ls : Array Slot} {w : Value} {t : FieldType} {rest : List Value} (hret : meth.sig.returnType = some t) (hlk : meth.locks = false) (ht : t.isReference = true) (hv : w.isRef = true)
    (hd : decode c.code pc = .ok (.areturn, 1)) (eT : T.heap = h) (hc : cells ≤ kc) (hs : slots ≤ ks) (hQ : Q (some w) h locs) : Go p e below s kc ks Q T (mkF m pc Ls (w :: rest)) :=
  Go.ret X hx hret hlk (by cases t <;> first | (cases ht; done) | (cases w <;> first | (cases hv; done) | rfl)) (Or.inr (Or.inr (Or.inr (Or.inr ⟨rfl, ht, hv⟩)))) hd eT hc hs hQ
theorem Go.retN (X : Stand p l e R s m args below meth c T locs cells slots) (hx : p.tables.exec = Jvm.exec) {pc : Nat} {Ls : Array Slot} {z : Int32} {t : FieldType} {rest : List Value} (hret : meth.sig.returnType = some t) (hlk : meth.locks = false) (ht : t = .boolean ∨ t = .byte ∨ t = .char ∨ t = .short)
    (hd : decode c.code pc = .ok (.ireturn, 1)) (eT : T.heap = h) (hc : cells ≤ kc) (hs : slots ≤ ks) (hQ : Q (some (.int (nar t z))) h locs) : Go p e below s kc ks Q T (mkF m pc Ls (.int z :: rest)) := by
  obtain ⟨fs, hr, hrun, hended, hW, hsame⟩ := X.leave (v := some (.int (nar t z))) (fun q => by rw [hret] at q; cases q) hlk
  exact ⟨_, _, Jvm.RoadKit.retN X hx hret ht hd hr, hrun, hended, _, _, rfl, (by subst eT; exact hQ), ⟨_, rfl⟩, hW, hsame.mono hc hs⟩
theorem Go.ret0 (X : Stand p l e R s m args below meth c T locs cells slots) (hx : p.tables.exec = Jvm.exec) {pc : Nat} {Ls : Array Slot} (hret : meth.sig.returnType = none) (hlk : meth.locks = false)
    (hd : decode c.code pc = .ok (.return_, 1)) (eT : T.heap = h) (hc : cells ≤ kc) (hs : slots ≤ ks) (hQ : Q none h locs) : Go p e below s kc ks Q T (mkF m pc Ls []) := by
  obtain ⟨fs, hr, hrun, hended, hW, hsame⟩ := X.leave (v := none) (fun _ => rfl) hlk
  exact ⟨_, _, X.returnOut hx hret hd hr, hrun, hended, _, _, rfl, (by subst eT; exact hQ), ⟨_, rfl⟩, hW, hsame.mono hc hs⟩
theorem own_selp {args' : Array Value} {y : MethodName} {n : Nat} (wi : (Cond.instantiable y.cls n).before args' s = true) (hpriv : s.PrivateAt y) (hinst : (Cond.instanceMethod y).before args' s = true) (hy : y.cls ≠ "java/lang/invoke/MethodHandle" ∧ y.cls ≠ "java/lang/invoke/VarHandle") : (Cond.selects y.cls y y).before args' s = true := by
  obtain ⟨c, k, h1, h2, -, h4, -⟩ := Cond.instantiable_spec wi
  exact selects_self_of_private h1 h2 (by simp only [Bool.or_eq_false_iff] at h4; exact h4.1) hpriv hinst hy
theorem own_mvMN {Z : State} {a0 args' : Array Value} {own host : String} {y : MethodName} {index : Nat} (hZ : Z.Warmed39 s.vm) (w : (Cond.methodLinkNest own index y host).before a0 Z = true) : (Cond.methodLinkNest own index y host).before args' s = true := (Cond.methodLinkNest_wide hZ w :)
theorem own_nar01 {z : Int32} (h : z = 0 ∨ z = 1) : nar .boolean z = z := by rcases h with rfl | rfl <;> decide
end OwnGo
end Jvm.RoadKit
namespace Jvm.Pilot.@@N@@
open Jvm Jvm.ClassFile Sem Op Lib Jvm.Free Jvm.Stand Jvm.LawKit Jvm.RoadKit Bundle Jvm.Pilot.@@N@@.Jvm.D
theorem own_tn {j : Int32} {n : Nat} (h0 : 0 ≤ j.toInt) (h1 : j.toInt < n) : j.toNatClampNeg < n := by simp only [Int32.toNatClampNeg]; omega
theorem own_mg {l : List Int32} {k : Nat} (h : k < l.length) : (l.map Value.int).getD k (.int 0) = .int (l.getD k 0) := by simp [List.getD_eq_getElem?_getD, h]
def own_lk (v r : Int32) : Int32 := if r = 1 then 4 - v else v - 2
theorem d1_0 : decode method_2_code 0 = .ok (.iload_n 1, 1) := by decide +kernel
theorem d1_1 : decode method_2_code 1 = .ok (.iconst 1, 1) := by decide +kernel
theorem d1_2 : decode method_2_code 2 = .ok (.if_icmp .ne 9, 3) := by decide +kernel
theorem d1_5 : decode method_2_code 5 = .ok (.iconst 4, 1) := by decide +kernel
theorem d1_6 : decode method_2_code 6 = .ok (.iload_n 0, 1) := by decide +kernel
theorem d1_7 : decode method_2_code 7 = .ok (.isub, 1) := by decide +kernel
theorem d1_8 : decode method_2_code 8 = .ok (.goto 6, 3) := by decide +kernel
theorem d1_11 : decode method_2_code 11 = .ok (.iload_n 0, 1) := by decide +kernel
theorem d1_12 : decode method_2_code 12 = .ok (.iconst 2, 1) := by decide +kernel
theorem d1_13 : decode method_2_code 13 = .ok (.isub, 1) := by decide +kernel
theorem d1_14 : decode method_2_code 14 = .ok (.ireturn, 1) := by decide +kernel
theorem pn_com_example_wayfront_wayfront_paths_ShortestPathTreeIsPathToPinLaw : plainName "com/example/wayfront/wayfront/paths/ShortestPathTreeIsPathToPinLaw" = true := by first | (simp [plainName, overriddenIn]; done) | decide +kernel
theorem ef_rmLk (m : MethodId) (iv : Int32) (ir : Int32) : entryFrame m #[(.int iv), (.int ir)] 2 = mkF m 0 #[.val (.int iv), .val (.int ir)] [] := by first | (simp [entryFrame, mkF, argsToLocals, Value.category]; done) | rfl
def Q_rmLk (Z : State) (iv : Int32) (ir : Int32) (h0 : Heap) (n0 : Nat) (v : Option Value) (h : Heap) (L : List Loc) : Prop := (v = some (.int (own_lk iv ir))) ∧ (Fr n0 L) ∧ (h = h0)
set_option maxRecDepth 65536 in
set_option maxHeartbeats 40000000 in
theorem rmLk (l : Launch) (Z : State) (a0 : Array Value) (hw : ∀ d ∈ tables_1, d.before a0 Z = true) (ws : List Jvm.Cond) (iv : Int32) (ir : Int32) (h0 : Heap) (n0 : Nat) (Z0 : n0 ≤ h0.size) :
    MetFree l (⟨"com/example/wayfront/wayfront/paths/ShortestPathTreeIsPathToPinLaw", "link", "(II)I"⟩ : MethodName) (head1 (Jvm.Cond.code (⟨"com/example/wayfront/wayfront/paths/ShortestPathTreeIsPathToPinLaw", "link", "(II)I"⟩ : MethodName) method_2_code 2 (some .int) :: ws) ({ frames := 0, cells := 0, slots := 0, locals := 0 } : Room)) (fun aA U => aA = #[(.int iv), (.int ir)] ∧ Z.Warmed39 U.vm ∧ U.heap = h0) (fun _ _ _ _ _ => True) (fun _ U o U' => ∃ v L, o = .returned v ∧ Q_rmLk Z iv ir h0 n0 v U'.heap L ∧ FrameEnd U o U' L ({ frames := 0, cells := 0, slots := 0, locals := 0 } : Room).cells ({ frames := 0, cells := 0, slots := 0, locals := 0 } : Room).slots) := by
  refine MetFree.of_bodySF (plainFor_of_name pn_com_example_wayfront_wayfront_paths_ShortestPathTreeIsPathToPinLaw) hisR ?_
  intro p e s m args below meth c s₁ Bd hml0 hP hK
  obtain ⟨rfl, hZ, hh⟩ := hP
  have hx := Bd.exec
  have hby := Bd.bytes
  have hml : c.maxLocals = 2 := hml0
  have hown : s.vm.findClass "com/example/wayfront/wayfront/paths/ShortestPathTreeIsPathToPinLaw" = some m.cls := findClass_of_methodNamed Bd.named
  have hnm := (name_of_methodNamed Bd.named Bd.method).1
  have hret := Bd.returns
  have hlk : meth.locks = false := BodyLoose.notSynchronized Bd
  have X0 : Stand p l e ({ frames := 0, cells := 0, slots := 0, locals := 0 } : Room) s m #[(.int iv), (.int ir)] below meth c s₁ [] 0 0 := Stand.of_body Bd
  have e0 : s₁.heap = h0 := by rw [← hh, Bd.state]; rfl
  have N0 := Fr.nil n0
  suffices hgo : Go p e below s ({ frames := 0, cells := 0, slots := 0, locals := 0 } : Room).cells ({ frames := 0, cells := 0, slots := 0, locals := 0 } : Room).slots (Q_rmLk Z iv ir h0 n0) s₁ (mkF m 0 #[.val (.int iv), .val (.int ir)] []) from hgo.enter (ef_rmLk m iv ir)
  refine Go.step (fun _ k => XS.iloadN X0.here hx rfl (hb hby d1_0) rfl k) ?_
  show Go _ _ _ _ _ _ _ s₁ (mkF m 1 #[.val (.int iv), .val (.int ir)] [(.int ir)])
  refine Go.step (fun _ k => XS.iconst X0.here hx rfl (hb hby d1_1) k) ?_
  show Go _ _ _ _ _ _ _ s₁ (mkF m 2 #[.val (.int iv), .val (.int ir)] [(.int (1 : Int32)), (.int ir)])
  by_cases hc2_1 : ir = (1 : Int32)
  · refine Go.step (fun _ k => XS.icmpNo X0.here hx rfl (hb hby d1_2) rfl (teq hc2_1).2 k) ?_
    show Go _ _ _ _ _ _ _ s₁ (mkF m 5 #[.val (.int iv), .val (.int ir)] [])
    refine Go.step (fun _ k => XS.iconst X0.here hx rfl (hb hby d1_5) k) ?_
    show Go _ _ _ _ _ _ _ s₁ (mkF m 6 #[.val (.int iv), .val (.int ir)] [(.int (4 : Int32))])
    refine Go.step (fun _ k => XS.iloadN X0.here hx rfl (hb hby d1_6) rfl k) ?_
    show Go _ _ _ _ _ _ _ s₁ (mkF m 7 #[.val (.int iv), .val (.int ir)] [(.int iv), (.int (4 : Int32))])
    refine Go.step (fun _ k => XS.isub X0.here hx rfl (hb hby d1_7) rfl k) ?_
    show Go _ _ _ _ _ _ _ s₁ (mkF m 8 #[.val (.int iv), .val (.int ir)] [(.int ((4 : Int32) - iv))])
    refine Go.step (fun _ k => XS.goto X0.here hx rfl (pc0 := 8) (pc' := 14) rfl (hb hby d1_8) (by decide) (by decide) k) ?_
    show Go _ _ _ _ _ _ _ s₁ (mkF m 14 #[.val (.int iv), .val (.int ir)] [(.int ((4 : Int32) - iv))])
    exact Go.retI X0 hx hret hlk (hb hby d1_14) e0 (by decide) (by decide) ⟨(congrArg (fun z => some (Value.int z)) (if_pos hc2_1).symm), N0, rfl⟩
  · refine Go.step (fun _ k => XS.icmpYes X0.here hx rfl (pc0 := 2) (pc' := 11) rfl (hb hby d1_2) rfl (feq hc2_1).2 (by decide) (by decide) k) ?_
    show Go _ _ _ _ _ _ _ s₁ (mkF m 11 #[.val (.int iv), .val (.int ir)] [])
    refine Go.step (fun _ k => XS.iloadN X0.here hx rfl (hb hby d1_11) rfl k) ?_
    show Go _ _ _ _ _ _ _ s₁ (mkF m 12 #[.val (.int iv), .val (.int ir)] [(.int iv)])
    refine Go.step (fun _ k => XS.iconst X0.here hx rfl (hb hby d1_12) k) ?_
    show Go _ _ _ _ _ _ _ s₁ (mkF m 13 #[.val (.int iv), .val (.int ir)] [(.int (2 : Int32)), (.int iv)])
    refine Go.step (fun _ k => XS.isub X0.here hx rfl (hb hby d1_13) rfl k) ?_
    show Go _ _ _ _ _ _ _ s₁ (mkF m 14 #[.val (.int iv), .val (.int ir)] [(.int (iv - (2 : Int32)))])
    exact Go.retI X0 hx hret hlk (hb hby d1_14) e0 (by decide) (by decide) ⟨(congrArg (fun z => some (Value.int z)) (if_neg hc2_1).symm), N0, rfl⟩
theorem d2_0 : decode prog_45_method_1_code 0 = .ok (.aload_n 0, 1) := by decide +kernel
theorem d2_1 : decode prog_45_method_1_code 1 = .ok (.invokespecial 1, 3) := by decide +kernel
theorem d2_4 : decode prog_45_method_1_code 4 = .ok (.aload_n 0, 1) := by decide +kernel
theorem d2_5 : decode prog_45_method_1_code 5 = .ok (.iload_n 1, 1) := by decide +kernel
theorem d2_6 : decode prog_45_method_1_code 6 = .ok (.putfield 7, 3) := by decide +kernel
theorem d2_9 : decode prog_45_method_1_code 9 = .ok (.aload_n 0, 1) := by decide +kernel
theorem d2_10 : decode prog_45_method_1_code 10 = .ok (.aload_n 2, 1) := by decide +kernel
theorem d2_11 : decode prog_45_method_1_code 11 = .ok (.putfield 13, 3) := by decide +kernel
theorem d2_14 : decode prog_45_method_1_code 14 = .ok (.aload_n 0, 1) := by decide +kernel
theorem d2_15 : decode prog_45_method_1_code 15 = .ok (.aload_n 3, 1) := by decide +kernel
theorem d2_16 : decode prog_45_method_1_code 16 = .ok (.putfield 17, 3) := by decide +kernel
theorem d2_19 : decode prog_45_method_1_code 19 = .ok (.aload_n 0, 1) := by decide +kernel
theorem d2_20 : decode prog_45_method_1_code 20 = .ok (.aload 4, 2) := by decide +kernel
theorem d2_22 : decode prog_45_method_1_code 22 = .ok (.putfield 21, 3) := by decide +kernel
theorem d2_25 : decode prog_45_method_1_code 25 = .ok (.aload_n 0, 1) := by decide +kernel
theorem d2_26 : decode prog_45_method_1_code 26 = .ok (.aload 5, 2) := by decide +kernel
theorem d2_28 : decode prog_45_method_1_code 28 = .ok (.putfield 24, 3) := by decide +kernel
theorem d2_31 : decode prog_45_method_1_code 31 = .ok (.return_, 1) := by decide +kernel
theorem pd___V : parseMethodDescriptor "()V" = some ⟨[], none⟩ := by decide +kernel
theorem pn_com_example_wayfront_wayfront_paths_ShortestPathTree : plainName "com/example/wayfront/wayfront/paths/ShortestPathTree" = true := by first | (simp [plainName, overriddenIn]; done) | decide +kernel
theorem ef_rmIn (m : MethodId) (ao : Addr) (io : Int32) (ad : Addr) (ap : Addr) (ar : Addr) (at_ : Addr) : entryFrame m #[(.ref ao), (.int io), (.ref ad), (.ref ap), (.ref ar), (.ref at_)] 6 = mkF m 0 #[.val (.ref ao), .val (.int io), .val (.ref ad), .val (.ref ap), .val (.ref ar), .val (.ref at_)] [] := by first | (simp [entryFrame, mkF, argsToLocals, Value.category]; done) | rfl
def Q_rmIn (Z : State) (ao : Addr) (io : Int32) (ad : Addr) (ap : Addr) (ar : Addr) (at_ : Addr) (h0 : Heap) (n0 : Nat) (v : Option Value) (h : Heap) (L : List Loc) : Prop := (v = none) ∧ (Fr n0 L) ∧ (Keep h0 h [ao]) ∧ (Exa Z h ao "com/example/wayfront/wayfront/paths/ShortestPathTree") ∧ (Fld Z h ao "com/example/wayfront/wayfront/paths/ShortestPathTree" "predecessor" "[I" (.ref ap)) ∧ (Fld Z h ao "com/example/wayfront/wayfront/paths/ShortestPathTree" "tail" "[I" (.ref at_))
set_option maxRecDepth 65536 in
set_option maxHeartbeats 40000000 in
theorem rmIn (l : Launch) (Z : State) (a0 : Array Value) (hw : ∀ d ∈ tables_1, d.before a0 Z = true) (ws : List Jvm.Cond) (ao : Addr) (io : Int32) (ad : Addr) (ap : Addr) (ar : Addr) (at_ : Addr) (h0 : Heap) (n0 : Nat) (Z0 : n0 ≤ h0.size) (E0 : Exa Z h0 ao "com/example/wayfront/wayfront/paths/ShortestPathTree") (g0 : n0 ≤ ao) (F_origin : Fld Z h0 ao "com/example/wayfront/wayfront/paths/ShortestPathTree" "origin" "I" (.int (0 : Int32))) (F_distance : Fld Z h0 ao "com/example/wayfront/wayfront/paths/ShortestPathTree" "distance" "[D" .null) (F_predecessor : Fld Z h0 ao "com/example/wayfront/wayfront/paths/ShortestPathTree" "predecessor" "[I" .null) (F_order : Fld Z h0 ao "com/example/wayfront/wayfront/paths/ShortestPathTree" "order" "[I" .null) (F_tail : Fld Z h0 ao "com/example/wayfront/wayfront/paths/ShortestPathTree" "tail" "[I" .null) :
    MetFree l (⟨"com/example/wayfront/wayfront/paths/ShortestPathTree", "<init>", "(I[D[I[I[I)V"⟩ : MethodName) (head1 (Jvm.Cond.code (⟨"com/example/wayfront/wayfront/paths/ShortestPathTree", "<init>", "(I[D[I[I[I)V"⟩ : MethodName) prog_45_method_1_code 6 none :: ws) ({ frames := 1, cells := 0, slots := 0, locals := 12 } : Room)) (fun aA U => aA = #[(.ref ao), (.int io), (.ref ad), (.ref ap), (.ref ar), (.ref at_)] ∧ Z.Warmed39 U.vm ∧ U.heap = h0) (fun _ _ _ _ _ => True) (fun _ U o U' => ∃ v L, o = .returned v ∧ Q_rmIn Z ao io ad ap ar at_ h0 n0 v U'.heap L ∧ FrameEnd U o U' L ({ frames := 1, cells := 0, slots := 0, locals := 12 } : Room).cells ({ frames := 1, cells := 0, slots := 0, locals := 12 } : Room).slots) := by
  refine MetFree.of_bodySF (plainFor_of_name pn_com_example_wayfront_wayfront_paths_ShortestPathTree) hisR ?_
  intro p e s m args below meth c s₁ Bd hml0 hP hK
  obtain ⟨rfl, hZ, hh⟩ := hP
  have hx := Bd.exec
  have hby := Bd.bytes
  have hml : c.maxLocals = 6 := hml0
  have hown : s.vm.findClass "com/example/wayfront/wayfront/paths/ShortestPathTree" = some m.cls := findClass_of_methodNamed Bd.named
  have hnm := (name_of_methodNamed Bd.named Bd.method).1
  have hret := Bd.returns
  have hlk : meth.locks = false := BodyLoose.notSynchronized Bd
  have X0 : Stand p l e ({ frames := 1, cells := 0, slots := 0, locals := 12 } : Room) s m #[(.ref ao), (.int io), (.ref ad), (.ref ap), (.ref ar), (.ref at_)] below meth c s₁ [] 0 0 := Stand.of_body Bd
  have e0 : s₁.heap = h0 := by rw [← hh, Bd.state]; rfl
  have N0 := Fr.nil n0
  suffices hgo : Go p e below s ({ frames := 1, cells := 0, slots := 0, locals := 12 } : Room).cells ({ frames := 1, cells := 0, slots := 0, locals := 12 } : Room).slots (Q_rmIn Z ao io ad ap ar at_ h0 n0) s₁ (mkF m 0 #[.val (.ref ao), .val (.int io), .val (.ref ad), .val (.ref ap), .val (.ref ar), .val (.ref at_)] []) from hgo.enter (ef_rmIn m ao io ad ap ar at_)
  refine Go.step (fun _ k => XS.aloadN X0.here hx rfl (hb hby d2_0) rfl rfl k) ?_
  show Go _ _ _ _ _ _ _ s₁ (mkF m 1 #[.val (.ref ao), .val (.int io), .val (.ref ad), .val (.ref ap), .val (.ref ar), .val (.ref at_)] [(.ref ao)])
  obtain ⟨T2, X2, e2, st2⟩ := initO X0 hx hZ hown (hw _ (List.mem_of_getElem? (i := 15) rfl)) (hw _ (List.mem_of_getElem? (i := 16) rfl)) (hw _ (List.mem_of_getElem? (i := 17) rfl)) e0 (g := (mkF m 1 #[.val (.ref ao), .val (.int io), .val (.ref ad), .val (.ref ap), .val (.ref ar), .val (.ref at_)] [(.ref ao)])) rfl (by rw [hml]; rfl) rfl (hb hby d2_1) (by decide) (W := 0) (by show 2 * 0 + _ ≤ _; exact Nat.le_of_eq rfl) (by decide)
  refine Go.step st2 ?_
  show Go _ _ _ _ _ _ _ T2 (mkF m 4 #[.val (.ref ao), .val (.int io), .val (.ref ad), .val (.ref ap), .val (.ref ar), .val (.ref at_)] [])
  refine Go.step (fun _ k => XS.aloadN X2.here hx rfl (hb hby d2_4) rfl rfl k) ?_
  show Go _ _ _ _ _ _ _ T2 (mkF m 5 #[.val (.ref ao), .val (.int io), .val (.ref ad), .val (.ref ap), .val (.ref ar), .val (.ref at_)] [(.ref ao)])
  refine Go.step (fun _ k => XS.iloadN X2.here hx rfl (hb hby d2_5) rfl k) ?_
  show Go _ _ _ _ _ _ _ T2 (mkF m 6 #[.val (.ref ao), .val (.int io), .val (.ref ad), .val (.ref ap), .val (.ref ar), .val (.ref at_)] [(.int io), (.ref ao)])
  obtain ⟨T3, h3, X3, e3, W3, st3⟩ := putF X2 hx hZ hown (host := "") (Or.inl (hw _ (List.mem_of_getElem? (i := 18) rfl))) Via.refl e2 F_origin E0 (Or.inr ⟨(hw _ (List.mem_of_getElem? (i := 19) rfl)), rfl, hnm⟩) (hw _ (List.mem_of_getElem? (i := 10) rfl)) (ty := .int) (by decide) rfl rfl (g := (mkF m 6 #[.val (.ref ao), .val (.int io), .val (.ref ad), .val (.ref ap), .val (.ref ar), .val (.ref at_)] [(.int io), (.ref ao)])) rfl rfl (hb hby d2_6)
  refine Go.step st3 ?_
  have Fw3 := F_origin.same W3
  have N3 := Fr.snoc X3 N0 g0
  have Z3 : n0 ≤ h3.size := Nat.le_trans Z0 (Keep.of_wr W3).1
  have KK3 : Keep h0 h3 [ao] := (Keep.refl h0 [ao]).wr W3 (Or.inl (List.mem_of_getElem? (i := 0) rfl))
  show Go _ _ _ _ _ _ _ T3 (mkF m 9 #[.val (.ref ao), .val (.int io), .val (.ref ad), .val (.ref ap), .val (.ref ar), .val (.ref at_)] [])
  refine Go.step (fun _ k => XS.aloadN X3.here hx rfl (hb hby d2_9) rfl rfl k) ?_
  show Go _ _ _ _ _ _ _ T3 (mkF m 10 #[.val (.ref ao), .val (.int io), .val (.ref ad), .val (.ref ap), .val (.ref ar), .val (.ref at_)] [(.ref ao)])
  refine Go.step (fun _ k => XS.aloadN X3.here hx rfl (hb hby d2_10) rfl rfl k) ?_
  show Go _ _ _ _ _ _ _ T3 (mkF m 11 #[.val (.ref ao), .val (.int io), .val (.ref ad), .val (.ref ap), .val (.ref ar), .val (.ref at_)] [(.ref ad), (.ref ao)])
  have f4 : Fld Z h3 ao "com/example/wayfront/wayfront/paths/ShortestPathTree" "distance" "[D" .null := (F_distance.other W3 (Or.inr (slot_ne (a0 := a0) (C := "com/example/wayfront/wayfront/paths/ShortestPathTree") (Or.inr (hw _ (List.mem_of_getElem? (i := 21) rfl))) (Or.inr (hw _ (List.mem_of_getElem? (i := 19) rfl))) (by decide) (t := (.array .double)) (t' := .int) (by decide) (by decide))))
  have f5 : Exa Z h3 ao "com/example/wayfront/wayfront/paths/ShortestPathTree" := (E0.wr W3)
  obtain ⟨T6, h6, X6, e6, W6, st6⟩ := putF X3 hx hZ hown (host := "") (Or.inl (hw _ (List.mem_of_getElem? (i := 20) rfl))) Via.refl e3 f4 f5 (Or.inr ⟨(hw _ (List.mem_of_getElem? (i := 21) rfl)), rfl, hnm⟩) (hw _ (List.mem_of_getElem? (i := 10) rfl)) (ty := (.array .double)) (by decide) rfl rfl (g := (mkF m 11 #[.val (.ref ao), .val (.int io), .val (.ref ad), .val (.ref ap), .val (.ref ar), .val (.ref at_)] [(.ref ad), (.ref ao)])) rfl rfl (hb hby d2_11)
  refine Go.step st6 ?_
  have Fw6 := f4.same W6
  have N6 := Fr.snoc X6 N3 g0
  have Z6 : n0 ≤ h6.size := Nat.le_trans Z3 (Keep.of_wr W6).1
  have KK6 : Keep h0 h6 [ao] := KK3.wr W6 (Or.inl (List.mem_of_getElem? (i := 0) rfl))
  show Go _ _ _ _ _ _ _ T6 (mkF m 14 #[.val (.ref ao), .val (.int io), .val (.ref ad), .val (.ref ap), .val (.ref ar), .val (.ref at_)] [])
  refine Go.step (fun _ k => XS.aloadN X6.here hx rfl (hb hby d2_14) rfl rfl k) ?_
  show Go _ _ _ _ _ _ _ T6 (mkF m 15 #[.val (.ref ao), .val (.int io), .val (.ref ad), .val (.ref ap), .val (.ref ar), .val (.ref at_)] [(.ref ao)])
  refine Go.step (fun _ k => XS.aloadN X6.here hx rfl (hb hby d2_15) rfl rfl k) ?_
  show Go _ _ _ _ _ _ _ T6 (mkF m 16 #[.val (.ref ao), .val (.int io), .val (.ref ad), .val (.ref ap), .val (.ref ar), .val (.ref at_)] [(.ref ap), (.ref ao)])
  have f7 : Fld Z h6 ao "com/example/wayfront/wayfront/paths/ShortestPathTree" "predecessor" "[I" .null := ((F_predecessor.other W3 (Or.inr (slot_ne (a0 := a0) (C := "com/example/wayfront/wayfront/paths/ShortestPathTree") (Or.inr (hw _ (List.mem_of_getElem? (i := 23) rfl))) (Or.inr (hw _ (List.mem_of_getElem? (i := 19) rfl))) (by decide) (t := (.array .int)) (t' := .int) (by decide) (by decide)))).other W6 (Or.inr (slot_ne (a0 := a0) (C := "com/example/wayfront/wayfront/paths/ShortestPathTree") (Or.inr (hw _ (List.mem_of_getElem? (i := 23) rfl))) (Or.inr (hw _ (List.mem_of_getElem? (i := 21) rfl))) (by decide) (t := (.array .int)) (t' := (.array .double)) (by decide) (by decide))))
  have f8 : Exa Z h6 ao "com/example/wayfront/wayfront/paths/ShortestPathTree" := (f5.wr W6)
  obtain ⟨T9, h9, X9, e9, W9, st9⟩ := putF X6 hx hZ hown (host := "") (Or.inl (hw _ (List.mem_of_getElem? (i := 22) rfl))) Via.refl e6 f7 f8 (Or.inr ⟨(hw _ (List.mem_of_getElem? (i := 23) rfl)), rfl, hnm⟩) (hw _ (List.mem_of_getElem? (i := 10) rfl)) (ty := (.array .int)) (by decide) rfl rfl (g := (mkF m 16 #[.val (.ref ao), .val (.int io), .val (.ref ad), .val (.ref ap), .val (.ref ar), .val (.ref at_)] [(.ref ap), (.ref ao)])) rfl rfl (hb hby d2_16)
  refine Go.step st9 ?_
  have Fw9 := f7.same W9
  have N9 := Fr.snoc X9 N6 g0
  have Z9 : n0 ≤ h9.size := Nat.le_trans Z6 (Keep.of_wr W9).1
  have KK9 : Keep h0 h9 [ao] := KK6.wr W9 (Or.inl (List.mem_of_getElem? (i := 0) rfl))
  show Go _ _ _ _ _ _ _ T9 (mkF m 19 #[.val (.ref ao), .val (.int io), .val (.ref ad), .val (.ref ap), .val (.ref ar), .val (.ref at_)] [])
  refine Go.step (fun _ k => XS.aloadN X9.here hx rfl (hb hby d2_19) rfl rfl k) ?_
  show Go _ _ _ _ _ _ _ T9 (mkF m 20 #[.val (.ref ao), .val (.int io), .val (.ref ad), .val (.ref ap), .val (.ref ar), .val (.ref at_)] [(.ref ao)])
  refine Go.step (fun _ k => XS.aload X9.here hx rfl (hb hby d2_20) rfl rfl k) ?_
  show Go _ _ _ _ _ _ _ T9 (mkF m 22 #[.val (.ref ao), .val (.int io), .val (.ref ad), .val (.ref ap), .val (.ref ar), .val (.ref at_)] [(.ref ar), (.ref ao)])
  have f10 : Fld Z h9 ao "com/example/wayfront/wayfront/paths/ShortestPathTree" "order" "[I" .null := (((F_order.other W3 (Or.inr (slot_ne (a0 := a0) (C := "com/example/wayfront/wayfront/paths/ShortestPathTree") (Or.inr (hw _ (List.mem_of_getElem? (i := 25) rfl))) (Or.inr (hw _ (List.mem_of_getElem? (i := 19) rfl))) (by decide) (t := (.array .int)) (t' := .int) (by decide) (by decide)))).other W6 (Or.inr (slot_ne (a0 := a0) (C := "com/example/wayfront/wayfront/paths/ShortestPathTree") (Or.inr (hw _ (List.mem_of_getElem? (i := 25) rfl))) (Or.inr (hw _ (List.mem_of_getElem? (i := 21) rfl))) (by decide) (t := (.array .int)) (t' := (.array .double)) (by decide) (by decide)))).other W9 (Or.inr (slot_ne (a0 := a0) (C := "com/example/wayfront/wayfront/paths/ShortestPathTree") (Or.inr (hw _ (List.mem_of_getElem? (i := 25) rfl))) (Or.inr (hw _ (List.mem_of_getElem? (i := 23) rfl))) (by decide) (t := (.array .int)) (t' := (.array .int)) (by decide) (by decide))))
  have f11 : Exa Z h9 ao "com/example/wayfront/wayfront/paths/ShortestPathTree" := (f8.wr W9)
  obtain ⟨T12, h12, X12, e12, W12, st12⟩ := putF X9 hx hZ hown (host := "") (Or.inl (hw _ (List.mem_of_getElem? (i := 24) rfl))) Via.refl e9 f10 f11 (Or.inr ⟨(hw _ (List.mem_of_getElem? (i := 25) rfl)), rfl, hnm⟩) (hw _ (List.mem_of_getElem? (i := 10) rfl)) (ty := (.array .int)) (by decide) rfl rfl (g := (mkF m 22 #[.val (.ref ao), .val (.int io), .val (.ref ad), .val (.ref ap), .val (.ref ar), .val (.ref at_)] [(.ref ar), (.ref ao)])) rfl rfl (hb hby d2_22)
  refine Go.step st12 ?_
  have Fw12 := f10.same W12
  have N12 := Fr.snoc X12 N9 g0
  have Z12 : n0 ≤ h12.size := Nat.le_trans Z9 (Keep.of_wr W12).1
  have KK12 : Keep h0 h12 [ao] := KK9.wr W12 (Or.inl (List.mem_of_getElem? (i := 0) rfl))
  show Go _ _ _ _ _ _ _ T12 (mkF m 25 #[.val (.ref ao), .val (.int io), .val (.ref ad), .val (.ref ap), .val (.ref ar), .val (.ref at_)] [])
  refine Go.step (fun _ k => XS.aloadN X12.here hx rfl (hb hby d2_25) rfl rfl k) ?_
  show Go _ _ _ _ _ _ _ T12 (mkF m 26 #[.val (.ref ao), .val (.int io), .val (.ref ad), .val (.ref ap), .val (.ref ar), .val (.ref at_)] [(.ref ao)])
  refine Go.step (fun _ k => XS.aload X12.here hx rfl (hb hby d2_26) rfl rfl k) ?_
  show Go _ _ _ _ _ _ _ T12 (mkF m 28 #[.val (.ref ao), .val (.int io), .val (.ref ad), .val (.ref ap), .val (.ref ar), .val (.ref at_)] [(.ref at_), (.ref ao)])
  have f13 : Fld Z h12 ao "com/example/wayfront/wayfront/paths/ShortestPathTree" "tail" "[I" .null := ((((F_tail.other W3 (Or.inr (slot_ne (a0 := a0) (C := "com/example/wayfront/wayfront/paths/ShortestPathTree") (Or.inr (hw _ (List.mem_of_getElem? (i := 27) rfl))) (Or.inr (hw _ (List.mem_of_getElem? (i := 19) rfl))) (by decide) (t := (.array .int)) (t' := .int) (by decide) (by decide)))).other W6 (Or.inr (slot_ne (a0 := a0) (C := "com/example/wayfront/wayfront/paths/ShortestPathTree") (Or.inr (hw _ (List.mem_of_getElem? (i := 27) rfl))) (Or.inr (hw _ (List.mem_of_getElem? (i := 21) rfl))) (by decide) (t := (.array .int)) (t' := (.array .double)) (by decide) (by decide)))).other W9 (Or.inr (slot_ne (a0 := a0) (C := "com/example/wayfront/wayfront/paths/ShortestPathTree") (Or.inr (hw _ (List.mem_of_getElem? (i := 27) rfl))) (Or.inr (hw _ (List.mem_of_getElem? (i := 23) rfl))) (by decide) (t := (.array .int)) (t' := (.array .int)) (by decide) (by decide)))).other W12 (Or.inr (slot_ne (a0 := a0) (C := "com/example/wayfront/wayfront/paths/ShortestPathTree") (Or.inr (hw _ (List.mem_of_getElem? (i := 27) rfl))) (Or.inr (hw _ (List.mem_of_getElem? (i := 25) rfl))) (by decide) (t := (.array .int)) (t' := (.array .int)) (by decide) (by decide))))
  have f14 : Exa Z h12 ao "com/example/wayfront/wayfront/paths/ShortestPathTree" := (f11.wr W12)
  obtain ⟨T15, h15, X15, e15, W15, st15⟩ := putF X12 hx hZ hown (host := "") (Or.inl (hw _ (List.mem_of_getElem? (i := 26) rfl))) Via.refl e12 f13 f14 (Or.inr ⟨(hw _ (List.mem_of_getElem? (i := 27) rfl)), rfl, hnm⟩) (hw _ (List.mem_of_getElem? (i := 10) rfl)) (ty := (.array .int)) (by decide) rfl rfl (g := (mkF m 28 #[.val (.ref ao), .val (.int io), .val (.ref ad), .val (.ref ap), .val (.ref ar), .val (.ref at_)] [(.ref at_), (.ref ao)])) rfl rfl (hb hby d2_28)
  refine Go.step st15 ?_
  have Fw15 := f13.same W15
  have N15 := Fr.snoc X15 N12 g0
  have Z15 : n0 ≤ h15.size := Nat.le_trans Z12 (Keep.of_wr W15).1
  have KK15 : Keep h0 h15 [ao] := KK12.wr W15 (Or.inl (List.mem_of_getElem? (i := 0) rfl))
  show Go _ _ _ _ _ _ _ T15 (mkF m 31 #[.val (.ref ao), .val (.int io), .val (.ref ad), .val (.ref ap), .val (.ref ar), .val (.ref at_)] [])
  have f16 : Exa Z h15 ao "com/example/wayfront/wayfront/paths/ShortestPathTree" := (f14.wr W15)
  have f17 : Fld Z h15 ao "com/example/wayfront/wayfront/paths/ShortestPathTree" "predecessor" "[I" (.ref ap) := ((Fw9.other W12 (Or.inr (slot_ne (a0 := a0) (C := "com/example/wayfront/wayfront/paths/ShortestPathTree") (Or.inr (hw _ (List.mem_of_getElem? (i := 23) rfl))) (Or.inr (hw _ (List.mem_of_getElem? (i := 25) rfl))) (by decide) (t := (.array .int)) (t' := (.array .int)) (by decide) (by decide)))).other W15 (Or.inr (slot_ne (a0 := a0) (C := "com/example/wayfront/wayfront/paths/ShortestPathTree") (Or.inr (hw _ (List.mem_of_getElem? (i := 23) rfl))) (Or.inr (hw _ (List.mem_of_getElem? (i := 27) rfl))) (by decide) (t := (.array .int)) (t' := (.array .int)) (by decide) (by decide))))
  exact Go.ret0 X15 hx hret hlk (hb hby d2_31) e15 (by decide) (by decide) ⟨rfl, N15, KK15, f16, f17, Fw15⟩
theorem own_len4 {l : List Int32} {n : Int32} (h : l.length = n.toNatClampNeg) (h0 : ¬ n < 0) : (l.length : Int) = n.toInt := by rw [h]; rw [Int32.lt_iff_toInt_lt] at h0; have : (0 : Int32).toInt = 0 := rfl; simp only [Int32.toNatClampNeg]; omega
theorem own_leq {la lb : List Int32} (h1 : la.length = lb.length) (h : ∀ i, i < la.length → la.getD i 0 = lb.getD i 0) : la = lb := by
  apply List.ext_getElem h1; intro i a b; have := h i a; simpa [List.getD_eq_getElem?_getD, a, b] using this
theorem own_lne {la lb : List Int32} {i : Nat} (h : ¬ la.getD i 0 = lb.getD i 0) : ¬ la = lb := fun q => h (by rw [q])
theorem d5_0 : decode method_3_code 0 = .ok (.aload_n 0, 1) := by decide +kernel
theorem d5_1 : decode method_3_code 1 = .ok (.arraylength, 1) := by decide +kernel
theorem d5_2 : decode method_3_code 2 = .ok (.aload_n 1, 1) := by decide +kernel
theorem d5_3 : decode method_3_code 3 = .ok (.arraylength, 1) := by decide +kernel
theorem d5_4 : decode method_3_code 4 = .ok (.if_icmp .eq 5, 3) := by decide +kernel
theorem d5_7 : decode method_3_code 7 = .ok (.iconst 0, 1) := by decide +kernel
theorem d5_8 : decode method_3_code 8 = .ok (.ireturn, 1) := by decide +kernel
theorem d5_9 : decode method_3_code 9 = .ok (.aload_n 0, 1) := by decide +kernel
theorem d5_10 : decode method_3_code 10 = .ok (.arraylength, 1) := by decide +kernel
theorem d5_11 : decode method_3_code 11 = .ok (.ifCond .le 14, 3) := by decide +kernel
theorem d5_14 : decode method_3_code 14 = .ok (.aload_n 0, 1) := by decide +kernel
theorem d5_15 : decode method_3_code 15 = .ok (.iconst 0, 1) := by decide +kernel
theorem d5_16 : decode method_3_code 16 = .ok (.iaload, 1) := by decide +kernel
theorem d5_17 : decode method_3_code 17 = .ok (.aload_n 1, 1) := by decide +kernel
theorem d5_18 : decode method_3_code 18 = .ok (.iconst 0, 1) := by decide +kernel
theorem d5_19 : decode method_3_code 19 = .ok (.iaload, 1) := by decide +kernel
theorem d5_20 : decode method_3_code 20 = .ok (.if_icmp .eq 5, 3) := by decide +kernel
theorem d5_23 : decode method_3_code 23 = .ok (.iconst 0, 1) := by decide +kernel
theorem d5_24 : decode method_3_code 24 = .ok (.ireturn, 1) := by decide +kernel
theorem d5_25 : decode method_3_code 25 = .ok (.aload_n 0, 1) := by decide +kernel
theorem d5_26 : decode method_3_code 26 = .ok (.arraylength, 1) := by decide +kernel
theorem d5_27 : decode method_3_code 27 = .ok (.iconst 1, 1) := by decide +kernel
theorem d5_28 : decode method_3_code 28 = .ok (.if_icmp .le 14, 3) := by decide +kernel
theorem d5_31 : decode method_3_code 31 = .ok (.aload_n 0, 1) := by decide +kernel
theorem d5_32 : decode method_3_code 32 = .ok (.iconst 1, 1) := by decide +kernel
theorem d5_33 : decode method_3_code 33 = .ok (.iaload, 1) := by decide +kernel
theorem d5_34 : decode method_3_code 34 = .ok (.aload_n 1, 1) := by decide +kernel
theorem d5_35 : decode method_3_code 35 = .ok (.iconst 1, 1) := by decide +kernel
theorem d5_36 : decode method_3_code 36 = .ok (.iaload, 1) := by decide +kernel
theorem d5_37 : decode method_3_code 37 = .ok (.if_icmp .eq 5, 3) := by decide +kernel
theorem d5_40 : decode method_3_code 40 = .ok (.iconst 0, 1) := by decide +kernel
theorem d5_41 : decode method_3_code 41 = .ok (.ireturn, 1) := by decide +kernel
theorem d5_42 : decode method_3_code 42 = .ok (.aload_n 0, 1) := by decide +kernel
theorem d5_43 : decode method_3_code 43 = .ok (.arraylength, 1) := by decide +kernel
theorem d5_44 : decode method_3_code 44 = .ok (.iconst 2, 1) := by decide +kernel
theorem d5_45 : decode method_3_code 45 = .ok (.if_icmp .le 14, 3) := by decide +kernel
theorem d5_48 : decode method_3_code 48 = .ok (.aload_n 0, 1) := by decide +kernel
theorem d5_49 : decode method_3_code 49 = .ok (.iconst 2, 1) := by decide +kernel
theorem d5_50 : decode method_3_code 50 = .ok (.iaload, 1) := by decide +kernel
theorem d5_51 : decode method_3_code 51 = .ok (.aload_n 1, 1) := by decide +kernel
theorem d5_52 : decode method_3_code 52 = .ok (.iconst 2, 1) := by decide +kernel
theorem d5_53 : decode method_3_code 53 = .ok (.iaload, 1) := by decide +kernel
theorem d5_54 : decode method_3_code 54 = .ok (.if_icmp .eq 5, 3) := by decide +kernel
theorem d5_57 : decode method_3_code 57 = .ok (.iconst 0, 1) := by decide +kernel
theorem d5_58 : decode method_3_code 58 = .ok (.ireturn, 1) := by decide +kernel
theorem d5_59 : decode method_3_code 59 = .ok (.aload_n 0, 1) := by decide +kernel
theorem d5_60 : decode method_3_code 60 = .ok (.arraylength, 1) := by decide +kernel
theorem d5_61 : decode method_3_code 61 = .ok (.iconst 3, 1) := by decide +kernel
theorem d5_62 : decode method_3_code 62 = .ok (.if_icmp .le 14, 3) := by decide +kernel
theorem d5_65 : decode method_3_code 65 = .ok (.aload_n 0, 1) := by decide +kernel
theorem d5_66 : decode method_3_code 66 = .ok (.iconst 3, 1) := by decide +kernel
theorem d5_67 : decode method_3_code 67 = .ok (.iaload, 1) := by decide +kernel
theorem d5_68 : decode method_3_code 68 = .ok (.aload_n 1, 1) := by decide +kernel
theorem d5_69 : decode method_3_code 69 = .ok (.iconst 3, 1) := by decide +kernel
theorem d5_70 : decode method_3_code 70 = .ok (.iaload, 1) := by decide +kernel
theorem d5_71 : decode method_3_code 71 = .ok (.if_icmp .eq 5, 3) := by decide +kernel
theorem d5_74 : decode method_3_code 74 = .ok (.iconst 0, 1) := by decide +kernel
theorem d5_75 : decode method_3_code 75 = .ok (.ireturn, 1) := by decide +kernel
theorem d5_76 : decode method_3_code 76 = .ok (.iconst 1, 1) := by decide +kernel
theorem d5_77 : decode method_3_code 77 = .ok (.ireturn, 1) := by decide +kernel
theorem ef_rmSa (m : MethodId) (aa : Addr) (ab : Addr) : entryFrame m #[(.ref aa), (.ref ab)] 2 = mkF m 0 #[.val (.ref aa), .val (.ref ab)] [] := by first | (simp [entryFrame, mkF, argsToLocals, Value.category]; done) | rfl
def Q_rmSa (Z : State) (aa : Addr) (ab : Addr) (ka : ClassId) (na : Int32) (la : List Int32) (kb : ClassId) (nb : Int32) (lb : List Int32) (h0 : Heap) (n0 : Nat) (v : Option Value) (h : Heap) (L : List Loc) : Prop := (v = some (.int (if la = lb then (1 : Int32) else 0))) ∧ (Fr n0 L) ∧ (h = h0)
set_option maxRecDepth 65536 in
set_option maxHeartbeats 40000000 in
theorem rmSa (l : Launch) (Z : State) (a0 : Array Value) (hw : ∀ d ∈ tables_1, d.before a0 Z = true) (ws : List Jvm.Cond) (aa : Addr) (ab : Addr) (ka : ClassId) (na : Int32) (la : List Int32) (kb : ClassId) (nb : Int32) (lb : List Int32) (h0 : Heap) (n0 : Nat) (Z0 : n0 ≤ h0.size) (Va : Arv Z h0 aa ka .int na (la.map Value.int) (.int (0 : Int32))) (Vb : Arv Z h0 ab kb .int nb (lb.map Value.int) (.int (0 : Int32))) (ha : la.length = na.toNatClampNeg) (ha0 : ¬ na < 0) (hb_ : lb.length = nb.toNatClampNeg) (hb_0 : ¬ nb < 0) (h4 : la.length ≤ 4) :
    MetFree l (⟨"com/example/wayfront/wayfront/paths/ShortestPathTreeIsPathToPinLaw", "same", "([I[I)Z"⟩ : MethodName) (head1 (Jvm.Cond.code (⟨"com/example/wayfront/wayfront/paths/ShortestPathTreeIsPathToPinLaw", "same", "([I[I)Z"⟩ : MethodName) method_3_code 2 (some .boolean) :: ws) ({ frames := 0, cells := 0, slots := 0, locals := 0 } : Room)) (fun aA U => aA = #[(.ref aa), (.ref ab)] ∧ Z.Warmed39 U.vm ∧ U.heap = h0) (fun _ _ _ _ _ => True) (fun _ U o U' => ∃ v L, o = .returned v ∧ Q_rmSa Z aa ab ka na la kb nb lb h0 n0 v U'.heap L ∧ FrameEnd U o U' L ({ frames := 0, cells := 0, slots := 0, locals := 0 } : Room).cells ({ frames := 0, cells := 0, slots := 0, locals := 0 } : Room).slots) := by
  refine MetFree.of_bodySF (plainFor_of_name pn_com_example_wayfront_wayfront_paths_ShortestPathTreeIsPathToPinLaw) hisR ?_
  intro p e s m args below meth c s₁ Bd hml0 hP hK
  obtain ⟨rfl, hZ, hh⟩ := hP
  have hx := Bd.exec
  have hby := Bd.bytes
  have hml : c.maxLocals = 2 := hml0
  have hown : s.vm.findClass "com/example/wayfront/wayfront/paths/ShortestPathTreeIsPathToPinLaw" = some m.cls := findClass_of_methodNamed Bd.named
  have hnm := (name_of_methodNamed Bd.named Bd.method).1
  have hret := Bd.returns
  have hlk : meth.locks = false := BodyLoose.notSynchronized Bd
  have X0 : Stand p l e ({ frames := 0, cells := 0, slots := 0, locals := 0 } : Room) s m #[(.ref aa), (.ref ab)] below meth c s₁ [] 0 0 := Stand.of_body Bd
  have e0 : s₁.heap = h0 := by rw [← hh, Bd.state]; rfl
  have N0 := Fr.nil n0
  suffices hgo : Go p e below s ({ frames := 0, cells := 0, slots := 0, locals := 0 } : Room).cells ({ frames := 0, cells := 0, slots := 0, locals := 0 } : Room).slots (Q_rmSa Z aa ab ka na la kb nb lb h0 n0) s₁ (mkF m 0 #[.val (.ref aa), .val (.ref ab)] []) from hgo.enter (ef_rmSa m aa ab)
  refine Go.step (fun _ k => XS.aloadN X0.here hx rfl (hb hby d5_0) rfl rfl k) ?_
  show Go _ _ _ _ _ _ _ s₁ (mkF m 1 #[.val (.ref aa), .val (.ref ab)] [(.ref aa)])
  obtain ⟨cl18, Ar18, -, S18, M18, -, -⟩ := id (Va)
  have al18 := X0.arraylength hx (by rw [e0]; exact Ar18.1) (State.isArrayOf_alike hZ.alike Ar18.2.1) (g := (mkF m 1 #[.val (.ref aa), .val (.ref ab)] [(.ref aa)])) rfl rfl (hb hby d5_1)
  rw [len_of S18 M18] at al18
  refine Go.step al18 ?_
  show Go _ _ _ _ _ _ _ s₁ (mkF m 2 #[.val (.ref aa), .val (.ref ab)] [(.int na)])
  refine Go.step (fun _ k => XS.aloadN X0.here hx rfl (hb hby d5_2) rfl rfl k) ?_
  show Go _ _ _ _ _ _ _ s₁ (mkF m 3 #[.val (.ref aa), .val (.ref ab)] [(.ref ab), (.int na)])
  obtain ⟨cl19, Ar19, -, S19, M19, -, -⟩ := id (Vb)
  have al19 := X0.arraylength hx (by rw [e0]; exact Ar19.1) (State.isArrayOf_alike hZ.alike Ar19.2.1) (g := (mkF m 3 #[.val (.ref aa), .val (.ref ab)] [(.ref ab), (.int na)])) rfl rfl (hb hby d5_3)
  rw [len_of S19 M19] at al19
  refine Go.step al19 ?_
  show Go _ _ _ _ _ _ _ s₁ (mkF m 4 #[.val (.ref aa), .val (.ref ab)] [(.int nb), (.int na)])
  by_cases hc4_20 : na = nb
  · refine Go.step (fun _ k => XS.icmpYes X0.here hx rfl (pc0 := 4) (pc' := 9) rfl (hb hby d5_4) rfl (teq hc4_20).1 (by decide) (by decide) k) ?_
    show Go _ _ _ _ _ _ _ s₁ (mkF m 9 #[.val (.ref aa), .val (.ref ab)] [])
    refine Go.step (fun _ k => XS.aloadN X0.here hx rfl (hb hby d5_9) rfl rfl k) ?_
    show Go _ _ _ _ _ _ _ s₁ (mkF m 10 #[.val (.ref aa), .val (.ref ab)] [(.ref aa)])
    obtain ⟨cl21, Ar21, -, S21, M21, -, -⟩ := id (Va)
    have al21 := X0.arraylength hx (by rw [e0]; exact Ar21.1) (State.isArrayOf_alike hZ.alike Ar21.2.1) (g := (mkF m 10 #[.val (.ref aa), .val (.ref ab)] [(.ref aa)])) rfl rfl (hb hby d5_10)
    rw [len_of S21 M21] at al21
    refine Go.step al21 ?_
    show Go _ _ _ _ _ _ _ s₁ (mkF m 11 #[.val (.ref aa), .val (.ref ab)] [(.int na)])
    by_cases hc11_22 : (0 : Int32) < na
    · refine Go.step (fun _ k => XS.ifNo X0.here hx rfl (hb hby d5_11) rfl ((if0 _ _).trans (tlt hc11_22).2.2.2) k) ?_
      show Go _ _ _ _ _ _ _ s₁ (mkF m 14 #[.val (.ref aa), .val (.ref ab)] [])
      refine Go.step (fun _ k => XS.aloadN X0.here hx rfl (hb hby d5_14) rfl rfl k) ?_
      show Go _ _ _ _ _ _ _ s₁ (mkF m 15 #[.val (.ref aa), .val (.ref ab)] [(.ref aa)])
      refine Go.step (fun _ k => XS.iconst X0.here hx rfl (hb hby d5_15) k) ?_
      show Go _ _ _ _ _ _ _ s₁ (mkF m 16 #[.val (.ref aa), .val (.ref ab)] [(.int (0 : Int32)), (.ref aa)])
      obtain ⟨cl23, Ar23, q23, S23, M23, H23, G23⟩ := id (Va)
      have hin23 : ¬ ((0 : Int32) < 0 ∨ cl23.slots.size ≤ ((0 : Int32)).toNatClampNeg) := inb_of S23 ⟨by decide, (by have := rng32 na; have := rng32 nb; have : (0 : Int32).toInt = 0 := rfl; have e4 := hc4_20; simp only [Int32.lt_iff_toInt_lt, Int32.le_iff_toInt_le, ← Int32.toInt_inj, Int64.lt_iff_toInt_lt, Int64.le_iff_toInt_le, ← Int64.toInt_inj] at e4 hc11_22 ⊢; omega)⟩
      have hat23 : cl23.slots[((0 : Int32)).toNatClampNeg]? = some (.int (la.getD 0 0)) := H23.at hin23 (own_mg (by have q := own_len4 ha ha0; have := rng32 na; have := rng32 nb; have : (0 : Int32).toInt = 0 := rfl; have e4 := hc4_20; simp only [Int32.lt_iff_toInt_lt, Int32.le_iff_toInt_le, ← Int32.toInt_inj, Int64.lt_iff_toInt_lt, Int64.le_iff_toInt_le, ← Int64.toInt_inj] at e4 hc11_22; show 0 < la.length; omega))
      refine Go.step (X0.iaload hx (j := (0 : Int32)) (v := (.int (la.getD 0 0))) (by rw [e0]; exact Ar23.1) (State.isArrayOf_alike hZ.alike Ar23.2.1) Ar23.2.2 hin23 hat23 (g := (mkF m 16 #[.val (.ref aa), .val (.ref ab)] [(.int (0 : Int32)), (.ref aa)])) rfl rfl (hb hby d5_16)) ?_
      show Go _ _ _ _ _ _ _ s₁ (mkF m 17 #[.val (.ref aa), .val (.ref ab)] [(.int (la.getD 0 0))])
      refine Go.step (fun _ k => XS.aloadN X0.here hx rfl (hb hby d5_17) rfl rfl k) ?_
      show Go _ _ _ _ _ _ _ s₁ (mkF m 18 #[.val (.ref aa), .val (.ref ab)] [(.ref ab), (.int (la.getD 0 0))])
      refine Go.step (fun _ k => XS.iconst X0.here hx rfl (hb hby d5_18) k) ?_
      show Go _ _ _ _ _ _ _ s₁ (mkF m 19 #[.val (.ref aa), .val (.ref ab)] [(.int (0 : Int32)), (.ref ab), (.int (la.getD 0 0))])
      obtain ⟨cl24, Ar24, q24, S24, M24, H24, G24⟩ := id (Vb)
      have hin24 : ¬ ((0 : Int32) < 0 ∨ cl24.slots.size ≤ ((0 : Int32)).toNatClampNeg) := inb_of S24 ⟨by decide, (by have := rng32 na; have := rng32 nb; have : (0 : Int32).toInt = 0 := rfl; have e4 := hc4_20; simp only [Int32.lt_iff_toInt_lt, Int32.le_iff_toInt_le, ← Int32.toInt_inj, Int64.lt_iff_toInt_lt, Int64.le_iff_toInt_le, ← Int64.toInt_inj] at e4 hc11_22 ⊢; omega)⟩
      have hat24 : cl24.slots[((0 : Int32)).toNatClampNeg]? = some (.int (lb.getD 0 0)) := H24.at hin24 (own_mg (by have q := own_len4 hb_ hb_0; have := rng32 na; have := rng32 nb; have : (0 : Int32).toInt = 0 := rfl; have e4 := hc4_20; simp only [Int32.lt_iff_toInt_lt, Int32.le_iff_toInt_le, ← Int32.toInt_inj, Int64.lt_iff_toInt_lt, Int64.le_iff_toInt_le, ← Int64.toInt_inj] at e4 hc11_22; show 0 < lb.length; omega))
      refine Go.step (X0.iaload hx (j := (0 : Int32)) (v := (.int (lb.getD 0 0))) (by rw [e0]; exact Ar24.1) (State.isArrayOf_alike hZ.alike Ar24.2.1) Ar24.2.2 hin24 hat24 (g := (mkF m 19 #[.val (.ref aa), .val (.ref ab)] [(.int (0 : Int32)), (.ref ab), (.int (la.getD 0 0))])) rfl rfl (hb hby d5_19)) ?_
      show Go _ _ _ _ _ _ _ s₁ (mkF m 20 #[.val (.ref aa), .val (.ref ab)] [(.int (lb.getD 0 0)), (.int (la.getD 0 0))])
      by_cases hc20_25 : (la.getD 0 0) = (lb.getD 0 0)
      · refine Go.step (fun _ k => XS.icmpYes X0.here hx rfl (pc0 := 20) (pc' := 25) rfl (hb hby d5_20) rfl (teq hc20_25).1 (by decide) (by decide) k) ?_
        show Go _ _ _ _ _ _ _ s₁ (mkF m 25 #[.val (.ref aa), .val (.ref ab)] [])
        refine Go.step (fun _ k => XS.aloadN X0.here hx rfl (hb hby d5_25) rfl rfl k) ?_
        show Go _ _ _ _ _ _ _ s₁ (mkF m 26 #[.val (.ref aa), .val (.ref ab)] [(.ref aa)])
        obtain ⟨cl26, Ar26, -, S26, M26, -, -⟩ := id (Va)
        have al26 := X0.arraylength hx (by rw [e0]; exact Ar26.1) (State.isArrayOf_alike hZ.alike Ar26.2.1) (g := (mkF m 26 #[.val (.ref aa), .val (.ref ab)] [(.ref aa)])) rfl rfl (hb hby d5_26)
        rw [len_of S26 M26] at al26
        refine Go.step al26 ?_
        show Go _ _ _ _ _ _ _ s₁ (mkF m 27 #[.val (.ref aa), .val (.ref ab)] [(.int na)])
        refine Go.step (fun _ k => XS.iconst X0.here hx rfl (hb hby d5_27) k) ?_
        show Go _ _ _ _ _ _ _ s₁ (mkF m 28 #[.val (.ref aa), .val (.ref ab)] [(.int (1 : Int32)), (.int na)])
        by_cases hc28_27 : (1 : Int32) < na
        · refine Go.step (fun _ k => XS.icmpNo X0.here hx rfl (hb hby d5_28) rfl (tlt hc28_27).2.2.2 k) ?_
          show Go _ _ _ _ _ _ _ s₁ (mkF m 31 #[.val (.ref aa), .val (.ref ab)] [])
          refine Go.step (fun _ k => XS.aloadN X0.here hx rfl (hb hby d5_31) rfl rfl k) ?_
          show Go _ _ _ _ _ _ _ s₁ (mkF m 32 #[.val (.ref aa), .val (.ref ab)] [(.ref aa)])
          refine Go.step (fun _ k => XS.iconst X0.here hx rfl (hb hby d5_32) k) ?_
          show Go _ _ _ _ _ _ _ s₁ (mkF m 33 #[.val (.ref aa), .val (.ref ab)] [(.int (1 : Int32)), (.ref aa)])
          obtain ⟨cl28, Ar28, q28, S28, M28, H28, G28⟩ := id (Va)
          have hin28 : ¬ ((1 : Int32) < 0 ∨ cl28.slots.size ≤ ((1 : Int32)).toNatClampNeg) := inb_of S28 ⟨by decide, (by have := rng32 na; have := rng32 nb; have : (1 : Int32).toInt = 1 := rfl; have : (0 : Int32).toInt = 0 := rfl; have e4 := hc4_20; simp only [Int32.lt_iff_toInt_lt, Int32.le_iff_toInt_le, ← Int32.toInt_inj, Int64.lt_iff_toInt_lt, Int64.le_iff_toInt_le, ← Int64.toInt_inj] at e4 hc28_27 ⊢; omega)⟩
          have hat28 : cl28.slots[((1 : Int32)).toNatClampNeg]? = some (.int (la.getD 1 0)) := H28.at hin28 (own_mg (by have q := own_len4 ha ha0; have := rng32 na; have := rng32 nb; have : (1 : Int32).toInt = 1 := rfl; have : (0 : Int32).toInt = 0 := rfl; have e4 := hc4_20; simp only [Int32.lt_iff_toInt_lt, Int32.le_iff_toInt_le, ← Int32.toInt_inj, Int64.lt_iff_toInt_lt, Int64.le_iff_toInt_le, ← Int64.toInt_inj] at e4 hc28_27; show 1 < la.length; omega))
          refine Go.step (X0.iaload hx (j := (1 : Int32)) (v := (.int (la.getD 1 0))) (by rw [e0]; exact Ar28.1) (State.isArrayOf_alike hZ.alike Ar28.2.1) Ar28.2.2 hin28 hat28 (g := (mkF m 33 #[.val (.ref aa), .val (.ref ab)] [(.int (1 : Int32)), (.ref aa)])) rfl rfl (hb hby d5_33)) ?_
          show Go _ _ _ _ _ _ _ s₁ (mkF m 34 #[.val (.ref aa), .val (.ref ab)] [(.int (la.getD 1 0))])
          refine Go.step (fun _ k => XS.aloadN X0.here hx rfl (hb hby d5_34) rfl rfl k) ?_
          show Go _ _ _ _ _ _ _ s₁ (mkF m 35 #[.val (.ref aa), .val (.ref ab)] [(.ref ab), (.int (la.getD 1 0))])
          refine Go.step (fun _ k => XS.iconst X0.here hx rfl (hb hby d5_35) k) ?_
          show Go _ _ _ _ _ _ _ s₁ (mkF m 36 #[.val (.ref aa), .val (.ref ab)] [(.int (1 : Int32)), (.ref ab), (.int (la.getD 1 0))])
          obtain ⟨cl29, Ar29, q29, S29, M29, H29, G29⟩ := id (Vb)
          have hin29 : ¬ ((1 : Int32) < 0 ∨ cl29.slots.size ≤ ((1 : Int32)).toNatClampNeg) := inb_of S29 ⟨by decide, (by have := rng32 na; have := rng32 nb; have : (1 : Int32).toInt = 1 := rfl; have : (0 : Int32).toInt = 0 := rfl; have e4 := hc4_20; simp only [Int32.lt_iff_toInt_lt, Int32.le_iff_toInt_le, ← Int32.toInt_inj, Int64.lt_iff_toInt_lt, Int64.le_iff_toInt_le, ← Int64.toInt_inj] at e4 hc28_27 ⊢; omega)⟩
          have hat29 : cl29.slots[((1 : Int32)).toNatClampNeg]? = some (.int (lb.getD 1 0)) := H29.at hin29 (own_mg (by have q := own_len4 hb_ hb_0; have := rng32 na; have := rng32 nb; have : (1 : Int32).toInt = 1 := rfl; have : (0 : Int32).toInt = 0 := rfl; have e4 := hc4_20; simp only [Int32.lt_iff_toInt_lt, Int32.le_iff_toInt_le, ← Int32.toInt_inj, Int64.lt_iff_toInt_lt, Int64.le_iff_toInt_le, ← Int64.toInt_inj] at e4 hc28_27; show 1 < lb.length; omega))
          refine Go.step (X0.iaload hx (j := (1 : Int32)) (v := (.int (lb.getD 1 0))) (by rw [e0]; exact Ar29.1) (State.isArrayOf_alike hZ.alike Ar29.2.1) Ar29.2.2 hin29 hat29 (g := (mkF m 36 #[.val (.ref aa), .val (.ref ab)] [(.int (1 : Int32)), (.ref ab), (.int (la.getD 1 0))])) rfl rfl (hb hby d5_36)) ?_
          show Go _ _ _ _ _ _ _ s₁ (mkF m 37 #[.val (.ref aa), .val (.ref ab)] [(.int (lb.getD 1 0)), (.int (la.getD 1 0))])
          by_cases hc37_30 : (la.getD 1 0) = (lb.getD 1 0)
          · refine Go.step (fun _ k => XS.icmpYes X0.here hx rfl (pc0 := 37) (pc' := 42) rfl (hb hby d5_37) rfl (teq hc37_30).1 (by decide) (by decide) k) ?_
            show Go _ _ _ _ _ _ _ s₁ (mkF m 42 #[.val (.ref aa), .val (.ref ab)] [])
            refine Go.step (fun _ k => XS.aloadN X0.here hx rfl (hb hby d5_42) rfl rfl k) ?_
            show Go _ _ _ _ _ _ _ s₁ (mkF m 43 #[.val (.ref aa), .val (.ref ab)] [(.ref aa)])
            obtain ⟨cl31, Ar31, -, S31, M31, -, -⟩ := id (Va)
            have al31 := X0.arraylength hx (by rw [e0]; exact Ar31.1) (State.isArrayOf_alike hZ.alike Ar31.2.1) (g := (mkF m 43 #[.val (.ref aa), .val (.ref ab)] [(.ref aa)])) rfl rfl (hb hby d5_43)
            rw [len_of S31 M31] at al31
            refine Go.step al31 ?_
            show Go _ _ _ _ _ _ _ s₁ (mkF m 44 #[.val (.ref aa), .val (.ref ab)] [(.int na)])
            refine Go.step (fun _ k => XS.iconst X0.here hx rfl (hb hby d5_44) k) ?_
            show Go _ _ _ _ _ _ _ s₁ (mkF m 45 #[.val (.ref aa), .val (.ref ab)] [(.int (2 : Int32)), (.int na)])
            by_cases hc45_32 : (2 : Int32) < na
            · refine Go.step (fun _ k => XS.icmpNo X0.here hx rfl (hb hby d5_45) rfl (tlt hc45_32).2.2.2 k) ?_
              show Go _ _ _ _ _ _ _ s₁ (mkF m 48 #[.val (.ref aa), .val (.ref ab)] [])
              refine Go.step (fun _ k => XS.aloadN X0.here hx rfl (hb hby d5_48) rfl rfl k) ?_
              show Go _ _ _ _ _ _ _ s₁ (mkF m 49 #[.val (.ref aa), .val (.ref ab)] [(.ref aa)])
              refine Go.step (fun _ k => XS.iconst X0.here hx rfl (hb hby d5_49) k) ?_
              show Go _ _ _ _ _ _ _ s₁ (mkF m 50 #[.val (.ref aa), .val (.ref ab)] [(.int (2 : Int32)), (.ref aa)])
              obtain ⟨cl33, Ar33, q33, S33, M33, H33, G33⟩ := id (Va)
              have hin33 : ¬ ((2 : Int32) < 0 ∨ cl33.slots.size ≤ ((2 : Int32)).toNatClampNeg) := inb_of S33 ⟨by decide, (by have := rng32 na; have := rng32 nb; have : (2 : Int32).toInt = 2 := rfl; have : (0 : Int32).toInt = 0 := rfl; have e4 := hc4_20; simp only [Int32.lt_iff_toInt_lt, Int32.le_iff_toInt_le, ← Int32.toInt_inj, Int64.lt_iff_toInt_lt, Int64.le_iff_toInt_le, ← Int64.toInt_inj] at e4 hc45_32 ⊢; omega)⟩
              have hat33 : cl33.slots[((2 : Int32)).toNatClampNeg]? = some (.int (la.getD 2 0)) := H33.at hin33 (own_mg (by have q := own_len4 ha ha0; have := rng32 na; have := rng32 nb; have : (2 : Int32).toInt = 2 := rfl; have : (0 : Int32).toInt = 0 := rfl; have e4 := hc4_20; simp only [Int32.lt_iff_toInt_lt, Int32.le_iff_toInt_le, ← Int32.toInt_inj, Int64.lt_iff_toInt_lt, Int64.le_iff_toInt_le, ← Int64.toInt_inj] at e4 hc45_32; show 2 < la.length; omega))
              refine Go.step (X0.iaload hx (j := (2 : Int32)) (v := (.int (la.getD 2 0))) (by rw [e0]; exact Ar33.1) (State.isArrayOf_alike hZ.alike Ar33.2.1) Ar33.2.2 hin33 hat33 (g := (mkF m 50 #[.val (.ref aa), .val (.ref ab)] [(.int (2 : Int32)), (.ref aa)])) rfl rfl (hb hby d5_50)) ?_
              show Go _ _ _ _ _ _ _ s₁ (mkF m 51 #[.val (.ref aa), .val (.ref ab)] [(.int (la.getD 2 0))])
              refine Go.step (fun _ k => XS.aloadN X0.here hx rfl (hb hby d5_51) rfl rfl k) ?_
              show Go _ _ _ _ _ _ _ s₁ (mkF m 52 #[.val (.ref aa), .val (.ref ab)] [(.ref ab), (.int (la.getD 2 0))])
              refine Go.step (fun _ k => XS.iconst X0.here hx rfl (hb hby d5_52) k) ?_
              show Go _ _ _ _ _ _ _ s₁ (mkF m 53 #[.val (.ref aa), .val (.ref ab)] [(.int (2 : Int32)), (.ref ab), (.int (la.getD 2 0))])
              obtain ⟨cl34, Ar34, q34, S34, M34, H34, G34⟩ := id (Vb)
              have hin34 : ¬ ((2 : Int32) < 0 ∨ cl34.slots.size ≤ ((2 : Int32)).toNatClampNeg) := inb_of S34 ⟨by decide, (by have := rng32 na; have := rng32 nb; have : (2 : Int32).toInt = 2 := rfl; have : (0 : Int32).toInt = 0 := rfl; have e4 := hc4_20; simp only [Int32.lt_iff_toInt_lt, Int32.le_iff_toInt_le, ← Int32.toInt_inj, Int64.lt_iff_toInt_lt, Int64.le_iff_toInt_le, ← Int64.toInt_inj] at e4 hc45_32 ⊢; omega)⟩
              have hat34 : cl34.slots[((2 : Int32)).toNatClampNeg]? = some (.int (lb.getD 2 0)) := H34.at hin34 (own_mg (by have q := own_len4 hb_ hb_0; have := rng32 na; have := rng32 nb; have : (2 : Int32).toInt = 2 := rfl; have : (0 : Int32).toInt = 0 := rfl; have e4 := hc4_20; simp only [Int32.lt_iff_toInt_lt, Int32.le_iff_toInt_le, ← Int32.toInt_inj, Int64.lt_iff_toInt_lt, Int64.le_iff_toInt_le, ← Int64.toInt_inj] at e4 hc45_32; show 2 < lb.length; omega))
              refine Go.step (X0.iaload hx (j := (2 : Int32)) (v := (.int (lb.getD 2 0))) (by rw [e0]; exact Ar34.1) (State.isArrayOf_alike hZ.alike Ar34.2.1) Ar34.2.2 hin34 hat34 (g := (mkF m 53 #[.val (.ref aa), .val (.ref ab)] [(.int (2 : Int32)), (.ref ab), (.int (la.getD 2 0))])) rfl rfl (hb hby d5_53)) ?_
              show Go _ _ _ _ _ _ _ s₁ (mkF m 54 #[.val (.ref aa), .val (.ref ab)] [(.int (lb.getD 2 0)), (.int (la.getD 2 0))])
              by_cases hc54_35 : (la.getD 2 0) = (lb.getD 2 0)
              · refine Go.step (fun _ k => XS.icmpYes X0.here hx rfl (pc0 := 54) (pc' := 59) rfl (hb hby d5_54) rfl (teq hc54_35).1 (by decide) (by decide) k) ?_
                show Go _ _ _ _ _ _ _ s₁ (mkF m 59 #[.val (.ref aa), .val (.ref ab)] [])
                refine Go.step (fun _ k => XS.aloadN X0.here hx rfl (hb hby d5_59) rfl rfl k) ?_
                show Go _ _ _ _ _ _ _ s₁ (mkF m 60 #[.val (.ref aa), .val (.ref ab)] [(.ref aa)])
                obtain ⟨cl36, Ar36, -, S36, M36, -, -⟩ := id (Va)
                have al36 := X0.arraylength hx (by rw [e0]; exact Ar36.1) (State.isArrayOf_alike hZ.alike Ar36.2.1) (g := (mkF m 60 #[.val (.ref aa), .val (.ref ab)] [(.ref aa)])) rfl rfl (hb hby d5_60)
                rw [len_of S36 M36] at al36
                refine Go.step al36 ?_
                show Go _ _ _ _ _ _ _ s₁ (mkF m 61 #[.val (.ref aa), .val (.ref ab)] [(.int na)])
                refine Go.step (fun _ k => XS.iconst X0.here hx rfl (hb hby d5_61) k) ?_
                show Go _ _ _ _ _ _ _ s₁ (mkF m 62 #[.val (.ref aa), .val (.ref ab)] [(.int (3 : Int32)), (.int na)])
                by_cases hc62_37 : (3 : Int32) < na
                · refine Go.step (fun _ k => XS.icmpNo X0.here hx rfl (hb hby d5_62) rfl (tlt hc62_37).2.2.2 k) ?_
                  show Go _ _ _ _ _ _ _ s₁ (mkF m 65 #[.val (.ref aa), .val (.ref ab)] [])
                  refine Go.step (fun _ k => XS.aloadN X0.here hx rfl (hb hby d5_65) rfl rfl k) ?_
                  show Go _ _ _ _ _ _ _ s₁ (mkF m 66 #[.val (.ref aa), .val (.ref ab)] [(.ref aa)])
                  refine Go.step (fun _ k => XS.iconst X0.here hx rfl (hb hby d5_66) k) ?_
                  show Go _ _ _ _ _ _ _ s₁ (mkF m 67 #[.val (.ref aa), .val (.ref ab)] [(.int (3 : Int32)), (.ref aa)])
                  obtain ⟨cl38, Ar38, q38, S38, M38, H38, G38⟩ := id (Va)
                  have hin38 : ¬ ((3 : Int32) < 0 ∨ cl38.slots.size ≤ ((3 : Int32)).toNatClampNeg) := inb_of S38 ⟨by decide, (by have := rng32 na; have := rng32 nb; have : (3 : Int32).toInt = 3 := rfl; have : (0 : Int32).toInt = 0 := rfl; have e4 := hc4_20; simp only [Int32.lt_iff_toInt_lt, Int32.le_iff_toInt_le, ← Int32.toInt_inj, Int64.lt_iff_toInt_lt, Int64.le_iff_toInt_le, ← Int64.toInt_inj] at e4 hc62_37 ⊢; omega)⟩
                  have hat38 : cl38.slots[((3 : Int32)).toNatClampNeg]? = some (.int (la.getD 3 0)) := H38.at hin38 (own_mg (by have q := own_len4 ha ha0; have := rng32 na; have := rng32 nb; have : (3 : Int32).toInt = 3 := rfl; have : (0 : Int32).toInt = 0 := rfl; have e4 := hc4_20; simp only [Int32.lt_iff_toInt_lt, Int32.le_iff_toInt_le, ← Int32.toInt_inj, Int64.lt_iff_toInt_lt, Int64.le_iff_toInt_le, ← Int64.toInt_inj] at e4 hc62_37; show 3 < la.length; omega))
                  refine Go.step (X0.iaload hx (j := (3 : Int32)) (v := (.int (la.getD 3 0))) (by rw [e0]; exact Ar38.1) (State.isArrayOf_alike hZ.alike Ar38.2.1) Ar38.2.2 hin38 hat38 (g := (mkF m 67 #[.val (.ref aa), .val (.ref ab)] [(.int (3 : Int32)), (.ref aa)])) rfl rfl (hb hby d5_67)) ?_
                  show Go _ _ _ _ _ _ _ s₁ (mkF m 68 #[.val (.ref aa), .val (.ref ab)] [(.int (la.getD 3 0))])
                  refine Go.step (fun _ k => XS.aloadN X0.here hx rfl (hb hby d5_68) rfl rfl k) ?_
                  show Go _ _ _ _ _ _ _ s₁ (mkF m 69 #[.val (.ref aa), .val (.ref ab)] [(.ref ab), (.int (la.getD 3 0))])
                  refine Go.step (fun _ k => XS.iconst X0.here hx rfl (hb hby d5_69) k) ?_
                  show Go _ _ _ _ _ _ _ s₁ (mkF m 70 #[.val (.ref aa), .val (.ref ab)] [(.int (3 : Int32)), (.ref ab), (.int (la.getD 3 0))])
                  obtain ⟨cl39, Ar39, q39, S39, M39, H39, G39⟩ := id (Vb)
                  have hin39 : ¬ ((3 : Int32) < 0 ∨ cl39.slots.size ≤ ((3 : Int32)).toNatClampNeg) := inb_of S39 ⟨by decide, (by have := rng32 na; have := rng32 nb; have : (3 : Int32).toInt = 3 := rfl; have : (0 : Int32).toInt = 0 := rfl; have e4 := hc4_20; simp only [Int32.lt_iff_toInt_lt, Int32.le_iff_toInt_le, ← Int32.toInt_inj, Int64.lt_iff_toInt_lt, Int64.le_iff_toInt_le, ← Int64.toInt_inj] at e4 hc62_37 ⊢; omega)⟩
                  have hat39 : cl39.slots[((3 : Int32)).toNatClampNeg]? = some (.int (lb.getD 3 0)) := H39.at hin39 (own_mg (by have q := own_len4 hb_ hb_0; have := rng32 na; have := rng32 nb; have : (3 : Int32).toInt = 3 := rfl; have : (0 : Int32).toInt = 0 := rfl; have e4 := hc4_20; simp only [Int32.lt_iff_toInt_lt, Int32.le_iff_toInt_le, ← Int32.toInt_inj, Int64.lt_iff_toInt_lt, Int64.le_iff_toInt_le, ← Int64.toInt_inj] at e4 hc62_37; show 3 < lb.length; omega))
                  refine Go.step (X0.iaload hx (j := (3 : Int32)) (v := (.int (lb.getD 3 0))) (by rw [e0]; exact Ar39.1) (State.isArrayOf_alike hZ.alike Ar39.2.1) Ar39.2.2 hin39 hat39 (g := (mkF m 70 #[.val (.ref aa), .val (.ref ab)] [(.int (3 : Int32)), (.ref ab), (.int (la.getD 3 0))])) rfl rfl (hb hby d5_70)) ?_
                  show Go _ _ _ _ _ _ _ s₁ (mkF m 71 #[.val (.ref aa), .val (.ref ab)] [(.int (lb.getD 3 0)), (.int (la.getD 3 0))])
                  by_cases hc71_40 : (la.getD 3 0) = (lb.getD 3 0)
                  · refine Go.step (fun _ k => XS.icmpYes X0.here hx rfl (pc0 := 71) (pc' := 76) rfl (hb hby d5_71) rfl (teq hc71_40).1 (by decide) (by decide) k) ?_
                    show Go _ _ _ _ _ _ _ s₁ (mkF m 76 #[.val (.ref aa), .val (.ref ab)] [])
                    refine Go.step (fun _ k => XS.iconst X0.here hx rfl (hb hby d5_76) k) ?_
                    show Go _ _ _ _ _ _ _ s₁ (mkF m 77 #[.val (.ref aa), .val (.ref ab)] [(.int (1 : Int32))])
                    exact Go.retN X0 hx (t := .boolean) hret hlk (by simp) (hb hby d5_77) e0 (by decide) (by decide) ⟨(congrArg (fun z => some (Value.int z)) (if_pos (own_leq (by have := rng32 na; have := rng32 nb; have : (0 : Int32).toInt = 0 := rfl; have q1 := own_len4 ha ha0; have q2 := own_len4 hb_ hb_0; have e4 := hc4_20; simp only [Int32.lt_iff_toInt_lt, Int32.le_iff_toInt_le, ← Int32.toInt_inj, Int64.lt_iff_toInt_lt, Int64.le_iff_toInt_le, ← Int64.toInt_inj] at e4; omega) (fun i hi => match i, hi with | 0, _ => hc20_25 | 1, _ => hc37_30 | 2, _ => hc54_35 | 3, _ => hc71_40 | (k + 4), hk => absurd hk (Nat.not_lt.mpr (Nat.le_trans (show la.length ≤ 4 from (by have := rng32 na; have : (0 : Int32).toInt = 0 := rfl; have : (1 : Int32).toInt = 1 := rfl; have : (2 : Int32).toInt = 2 := rfl; have : (3 : Int32).toInt = 3 := rfl; have q1 := own_len4 ha ha0; have := h4; omega)) (Nat.le_add_left _ _)))))).symm), N0, rfl⟩
                  · refine Go.step (fun _ k => XS.icmpNo X0.here hx rfl (hb hby d5_71) rfl (feq hc71_40).1 k) ?_
                    show Go _ _ _ _ _ _ _ s₁ (mkF m 74 #[.val (.ref aa), .val (.ref ab)] [])
                    refine Go.step (fun _ k => XS.iconst X0.here hx rfl (hb hby d5_74) k) ?_
                    show Go _ _ _ _ _ _ _ s₁ (mkF m 75 #[.val (.ref aa), .val (.ref ab)] [(.int (0 : Int32))])
                    exact Go.retN X0 hx (t := .boolean) hret hlk (by simp) (hb hby d5_75) e0 (by decide) (by decide) ⟨(congrArg (fun z => some (Value.int z)) (if_neg (own_lne hc71_40)).symm), N0, rfl⟩
                · refine Go.step (fun _ k => XS.icmpYes X0.here hx rfl (pc0 := 62) (pc' := 76) rfl (hb hby d5_62) rfl (flt hc62_37).2.2.2 (by decide) (by decide) k) ?_
                  show Go _ _ _ _ _ _ _ s₁ (mkF m 76 #[.val (.ref aa), .val (.ref ab)] [])
                  refine Go.step (fun _ k => XS.iconst X0.here hx rfl (hb hby d5_76) k) ?_
                  show Go _ _ _ _ _ _ _ s₁ (mkF m 77 #[.val (.ref aa), .val (.ref ab)] [(.int (1 : Int32))])
                  exact Go.retN X0 hx (t := .boolean) hret hlk (by simp) (hb hby d5_77) e0 (by decide) (by decide) ⟨(congrArg (fun z => some (Value.int z)) (if_pos (own_leq (by have := rng32 na; have := rng32 nb; have : (0 : Int32).toInt = 0 := rfl; have q1 := own_len4 ha ha0; have q2 := own_len4 hb_ hb_0; have e4 := hc4_20; simp only [Int32.lt_iff_toInt_lt, Int32.le_iff_toInt_le, ← Int32.toInt_inj, Int64.lt_iff_toInt_lt, Int64.le_iff_toInt_le, ← Int64.toInt_inj] at e4; omega) (fun i hi => match i, hi with | 0, _ => hc20_25 | 1, _ => hc37_30 | 2, _ => hc54_35 | (k + 3), hk => absurd hk (Nat.not_lt.mpr (Nat.le_trans (show la.length ≤ 3 from (by have := rng32 na; have : (0 : Int32).toInt = 0 := rfl; have : (1 : Int32).toInt = 1 := rfl; have : (2 : Int32).toInt = 2 := rfl; have : (3 : Int32).toInt = 3 := rfl; have q1 := own_len4 ha ha0; simp only [Int32.lt_iff_toInt_lt, Int32.le_iff_toInt_le, ← Int32.toInt_inj, Int64.lt_iff_toInt_lt, Int64.le_iff_toInt_le, ← Int64.toInt_inj] at hc62_37; omega)) (Nat.le_add_left _ _)))))).symm), N0, rfl⟩
              · refine Go.step (fun _ k => XS.icmpNo X0.here hx rfl (hb hby d5_54) rfl (feq hc54_35).1 k) ?_
                show Go _ _ _ _ _ _ _ s₁ (mkF m 57 #[.val (.ref aa), .val (.ref ab)] [])
                refine Go.step (fun _ k => XS.iconst X0.here hx rfl (hb hby d5_57) k) ?_
                show Go _ _ _ _ _ _ _ s₁ (mkF m 58 #[.val (.ref aa), .val (.ref ab)] [(.int (0 : Int32))])
                exact Go.retN X0 hx (t := .boolean) hret hlk (by simp) (hb hby d5_58) e0 (by decide) (by decide) ⟨(congrArg (fun z => some (Value.int z)) (if_neg (own_lne hc54_35)).symm), N0, rfl⟩
            · refine Go.step (fun _ k => XS.icmpYes X0.here hx rfl (pc0 := 45) (pc' := 59) rfl (hb hby d5_45) rfl (flt hc45_32).2.2.2 (by decide) (by decide) k) ?_
              show Go _ _ _ _ _ _ _ s₁ (mkF m 59 #[.val (.ref aa), .val (.ref ab)] [])
              refine Go.step (fun _ k => XS.aloadN X0.here hx rfl (hb hby d5_59) rfl rfl k) ?_
              show Go _ _ _ _ _ _ _ s₁ (mkF m 60 #[.val (.ref aa), .val (.ref ab)] [(.ref aa)])
              obtain ⟨cl41, Ar41, -, S41, M41, -, -⟩ := id (Va)
              have al41 := X0.arraylength hx (by rw [e0]; exact Ar41.1) (State.isArrayOf_alike hZ.alike Ar41.2.1) (g := (mkF m 60 #[.val (.ref aa), .val (.ref ab)] [(.ref aa)])) rfl rfl (hb hby d5_60)
              rw [len_of S41 M41] at al41
              refine Go.step al41 ?_
              show Go _ _ _ _ _ _ _ s₁ (mkF m 61 #[.val (.ref aa), .val (.ref ab)] [(.int na)])
              refine Go.step (fun _ k => XS.iconst X0.here hx rfl (hb hby d5_61) k) ?_
              show Go _ _ _ _ _ _ _ s₁ (mkF m 62 #[.val (.ref aa), .val (.ref ab)] [(.int (3 : Int32)), (.int na)])
              have hc62_42 : ¬ ((3 : Int32) < na) := (by have := rng32 na; have : (0 : Int32).toInt = 0 := rfl; have : (1 : Int32).toInt = 1 := rfl; have : (2 : Int32).toInt = 2 := rfl; have : (3 : Int32).toInt = 3 := rfl; simp only [Int32.lt_iff_toInt_lt, Int32.le_iff_toInt_le, ← Int32.toInt_inj, Int64.lt_iff_toInt_lt, Int64.le_iff_toInt_le, ← Int64.toInt_inj] at hc45_32 ⊢; omega)
              refine Go.step (fun _ k => XS.icmpYes X0.here hx rfl (pc0 := 62) (pc' := 76) rfl (hb hby d5_62) rfl (flt hc62_42).2.2.2 (by decide) (by decide) k) ?_
              show Go _ _ _ _ _ _ _ s₁ (mkF m 76 #[.val (.ref aa), .val (.ref ab)] [])
              refine Go.step (fun _ k => XS.iconst X0.here hx rfl (hb hby d5_76) k) ?_
              show Go _ _ _ _ _ _ _ s₁ (mkF m 77 #[.val (.ref aa), .val (.ref ab)] [(.int (1 : Int32))])
              exact Go.retN X0 hx (t := .boolean) hret hlk (by simp) (hb hby d5_77) e0 (by decide) (by decide) ⟨(congrArg (fun z => some (Value.int z)) (if_pos (own_leq (by have := rng32 na; have := rng32 nb; have : (0 : Int32).toInt = 0 := rfl; have q1 := own_len4 ha ha0; have q2 := own_len4 hb_ hb_0; have e4 := hc4_20; simp only [Int32.lt_iff_toInt_lt, Int32.le_iff_toInt_le, ← Int32.toInt_inj, Int64.lt_iff_toInt_lt, Int64.le_iff_toInt_le, ← Int64.toInt_inj] at e4; omega) (fun i hi => match i, hi with | 0, _ => hc20_25 | 1, _ => hc37_30 | (k + 2), hk => absurd hk (Nat.not_lt.mpr (Nat.le_trans (show la.length ≤ 2 from (by have := rng32 na; have : (0 : Int32).toInt = 0 := rfl; have : (1 : Int32).toInt = 1 := rfl; have : (2 : Int32).toInt = 2 := rfl; have : (3 : Int32).toInt = 3 := rfl; have q1 := own_len4 ha ha0; simp only [Int32.lt_iff_toInt_lt, Int32.le_iff_toInt_le, ← Int32.toInt_inj, Int64.lt_iff_toInt_lt, Int64.le_iff_toInt_le, ← Int64.toInt_inj] at hc45_32; omega)) (Nat.le_add_left _ _)))))).symm), N0, rfl⟩
          · refine Go.step (fun _ k => XS.icmpNo X0.here hx rfl (hb hby d5_37) rfl (feq hc37_30).1 k) ?_
            show Go _ _ _ _ _ _ _ s₁ (mkF m 40 #[.val (.ref aa), .val (.ref ab)] [])
            refine Go.step (fun _ k => XS.iconst X0.here hx rfl (hb hby d5_40) k) ?_
            show Go _ _ _ _ _ _ _ s₁ (mkF m 41 #[.val (.ref aa), .val (.ref ab)] [(.int (0 : Int32))])
            exact Go.retN X0 hx (t := .boolean) hret hlk (by simp) (hb hby d5_41) e0 (by decide) (by decide) ⟨(congrArg (fun z => some (Value.int z)) (if_neg (own_lne hc37_30)).symm), N0, rfl⟩
        · refine Go.step (fun _ k => XS.icmpYes X0.here hx rfl (pc0 := 28) (pc' := 42) rfl (hb hby d5_28) rfl (flt hc28_27).2.2.2 (by decide) (by decide) k) ?_
          show Go _ _ _ _ _ _ _ s₁ (mkF m 42 #[.val (.ref aa), .val (.ref ab)] [])
          refine Go.step (fun _ k => XS.aloadN X0.here hx rfl (hb hby d5_42) rfl rfl k) ?_
          show Go _ _ _ _ _ _ _ s₁ (mkF m 43 #[.val (.ref aa), .val (.ref ab)] [(.ref aa)])
          obtain ⟨cl43, Ar43, -, S43, M43, -, -⟩ := id (Va)
          have al43 := X0.arraylength hx (by rw [e0]; exact Ar43.1) (State.isArrayOf_alike hZ.alike Ar43.2.1) (g := (mkF m 43 #[.val (.ref aa), .val (.ref ab)] [(.ref aa)])) rfl rfl (hb hby d5_43)
          rw [len_of S43 M43] at al43
          refine Go.step al43 ?_
          show Go _ _ _ _ _ _ _ s₁ (mkF m 44 #[.val (.ref aa), .val (.ref ab)] [(.int na)])
          refine Go.step (fun _ k => XS.iconst X0.here hx rfl (hb hby d5_44) k) ?_
          show Go _ _ _ _ _ _ _ s₁ (mkF m 45 #[.val (.ref aa), .val (.ref ab)] [(.int (2 : Int32)), (.int na)])
          have hc45_44 : ¬ ((2 : Int32) < na) := (by have := rng32 na; have : (0 : Int32).toInt = 0 := rfl; have : (1 : Int32).toInt = 1 := rfl; have : (2 : Int32).toInt = 2 := rfl; have : (3 : Int32).toInt = 3 := rfl; simp only [Int32.lt_iff_toInt_lt, Int32.le_iff_toInt_le, ← Int32.toInt_inj, Int64.lt_iff_toInt_lt, Int64.le_iff_toInt_le, ← Int64.toInt_inj] at hc28_27 ⊢; omega)
          refine Go.step (fun _ k => XS.icmpYes X0.here hx rfl (pc0 := 45) (pc' := 59) rfl (hb hby d5_45) rfl (flt hc45_44).2.2.2 (by decide) (by decide) k) ?_
          show Go _ _ _ _ _ _ _ s₁ (mkF m 59 #[.val (.ref aa), .val (.ref ab)] [])
          refine Go.step (fun _ k => XS.aloadN X0.here hx rfl (hb hby d5_59) rfl rfl k) ?_
          show Go _ _ _ _ _ _ _ s₁ (mkF m 60 #[.val (.ref aa), .val (.ref ab)] [(.ref aa)])
          obtain ⟨cl45, Ar45, -, S45, M45, -, -⟩ := id (Va)
          have al45 := X0.arraylength hx (by rw [e0]; exact Ar45.1) (State.isArrayOf_alike hZ.alike Ar45.2.1) (g := (mkF m 60 #[.val (.ref aa), .val (.ref ab)] [(.ref aa)])) rfl rfl (hb hby d5_60)
          rw [len_of S45 M45] at al45
          refine Go.step al45 ?_
          show Go _ _ _ _ _ _ _ s₁ (mkF m 61 #[.val (.ref aa), .val (.ref ab)] [(.int na)])
          refine Go.step (fun _ k => XS.iconst X0.here hx rfl (hb hby d5_61) k) ?_
          show Go _ _ _ _ _ _ _ s₁ (mkF m 62 #[.val (.ref aa), .val (.ref ab)] [(.int (3 : Int32)), (.int na)])
          have hc62_46 : ¬ ((3 : Int32) < na) := (by have := rng32 na; have : (0 : Int32).toInt = 0 := rfl; have : (1 : Int32).toInt = 1 := rfl; have : (2 : Int32).toInt = 2 := rfl; have : (3 : Int32).toInt = 3 := rfl; simp only [Int32.lt_iff_toInt_lt, Int32.le_iff_toInt_le, ← Int32.toInt_inj, Int64.lt_iff_toInt_lt, Int64.le_iff_toInt_le, ← Int64.toInt_inj] at hc28_27 ⊢; omega)
          refine Go.step (fun _ k => XS.icmpYes X0.here hx rfl (pc0 := 62) (pc' := 76) rfl (hb hby d5_62) rfl (flt hc62_46).2.2.2 (by decide) (by decide) k) ?_
          show Go _ _ _ _ _ _ _ s₁ (mkF m 76 #[.val (.ref aa), .val (.ref ab)] [])
          refine Go.step (fun _ k => XS.iconst X0.here hx rfl (hb hby d5_76) k) ?_
          show Go _ _ _ _ _ _ _ s₁ (mkF m 77 #[.val (.ref aa), .val (.ref ab)] [(.int (1 : Int32))])
          exact Go.retN X0 hx (t := .boolean) hret hlk (by simp) (hb hby d5_77) e0 (by decide) (by decide) ⟨(congrArg (fun z => some (Value.int z)) (if_pos (own_leq (by have := rng32 na; have := rng32 nb; have : (0 : Int32).toInt = 0 := rfl; have q1 := own_len4 ha ha0; have q2 := own_len4 hb_ hb_0; have e4 := hc4_20; simp only [Int32.lt_iff_toInt_lt, Int32.le_iff_toInt_le, ← Int32.toInt_inj, Int64.lt_iff_toInt_lt, Int64.le_iff_toInt_le, ← Int64.toInt_inj] at e4; omega) (fun i hi => match i, hi with | 0, _ => hc20_25 | (k + 1), hk => absurd hk (Nat.not_lt.mpr (Nat.le_trans (show la.length ≤ 1 from (by have := rng32 na; have : (0 : Int32).toInt = 0 := rfl; have : (1 : Int32).toInt = 1 := rfl; have : (2 : Int32).toInt = 2 := rfl; have : (3 : Int32).toInt = 3 := rfl; have q1 := own_len4 ha ha0; simp only [Int32.lt_iff_toInt_lt, Int32.le_iff_toInt_le, ← Int32.toInt_inj, Int64.lt_iff_toInt_lt, Int64.le_iff_toInt_le, ← Int64.toInt_inj] at hc28_27; omega)) (Nat.le_add_left _ _)))))).symm), N0, rfl⟩
      · refine Go.step (fun _ k => XS.icmpNo X0.here hx rfl (hb hby d5_20) rfl (feq hc20_25).1 k) ?_
        show Go _ _ _ _ _ _ _ s₁ (mkF m 23 #[.val (.ref aa), .val (.ref ab)] [])
        refine Go.step (fun _ k => XS.iconst X0.here hx rfl (hb hby d5_23) k) ?_
        show Go _ _ _ _ _ _ _ s₁ (mkF m 24 #[.val (.ref aa), .val (.ref ab)] [(.int (0 : Int32))])
        exact Go.retN X0 hx (t := .boolean) hret hlk (by simp) (hb hby d5_24) e0 (by decide) (by decide) ⟨(congrArg (fun z => some (Value.int z)) (if_neg (own_lne hc20_25)).symm), N0, rfl⟩
    · refine Go.step (fun _ k => XS.ifYes X0.here hx rfl (pc0 := 11) (pc' := 25) rfl (hb hby d5_11) rfl ((if0 _ _).trans (flt hc11_22).2.2.2) (by decide) (by decide) k) ?_
      show Go _ _ _ _ _ _ _ s₁ (mkF m 25 #[.val (.ref aa), .val (.ref ab)] [])
      refine Go.step (fun _ k => XS.aloadN X0.here hx rfl (hb hby d5_25) rfl rfl k) ?_
      show Go _ _ _ _ _ _ _ s₁ (mkF m 26 #[.val (.ref aa), .val (.ref ab)] [(.ref aa)])
      obtain ⟨cl47, Ar47, -, S47, M47, -, -⟩ := id (Va)
      have al47 := X0.arraylength hx (by rw [e0]; exact Ar47.1) (State.isArrayOf_alike hZ.alike Ar47.2.1) (g := (mkF m 26 #[.val (.ref aa), .val (.ref ab)] [(.ref aa)])) rfl rfl (hb hby d5_26)
      rw [len_of S47 M47] at al47
      refine Go.step al47 ?_
      show Go _ _ _ _ _ _ _ s₁ (mkF m 27 #[.val (.ref aa), .val (.ref ab)] [(.int na)])
      refine Go.step (fun _ k => XS.iconst X0.here hx rfl (hb hby d5_27) k) ?_
      show Go _ _ _ _ _ _ _ s₁ (mkF m 28 #[.val (.ref aa), .val (.ref ab)] [(.int (1 : Int32)), (.int na)])
      have hc28_48 : ¬ ((1 : Int32) < na) := (by have := rng32 na; have : (0 : Int32).toInt = 0 := rfl; have : (1 : Int32).toInt = 1 := rfl; have : (2 : Int32).toInt = 2 := rfl; have : (3 : Int32).toInt = 3 := rfl; simp only [Int32.lt_iff_toInt_lt, Int32.le_iff_toInt_le, ← Int32.toInt_inj, Int64.lt_iff_toInt_lt, Int64.le_iff_toInt_le, ← Int64.toInt_inj] at hc11_22 ⊢; omega)
      refine Go.step (fun _ k => XS.icmpYes X0.here hx rfl (pc0 := 28) (pc' := 42) rfl (hb hby d5_28) rfl (flt hc28_48).2.2.2 (by decide) (by decide) k) ?_
      show Go _ _ _ _ _ _ _ s₁ (mkF m 42 #[.val (.ref aa), .val (.ref ab)] [])
      refine Go.step (fun _ k => XS.aloadN X0.here hx rfl (hb hby d5_42) rfl rfl k) ?_
      show Go _ _ _ _ _ _ _ s₁ (mkF m 43 #[.val (.ref aa), .val (.ref ab)] [(.ref aa)])
      obtain ⟨cl49, Ar49, -, S49, M49, -, -⟩ := id (Va)
      have al49 := X0.arraylength hx (by rw [e0]; exact Ar49.1) (State.isArrayOf_alike hZ.alike Ar49.2.1) (g := (mkF m 43 #[.val (.ref aa), .val (.ref ab)] [(.ref aa)])) rfl rfl (hb hby d5_43)
      rw [len_of S49 M49] at al49
      refine Go.step al49 ?_
      show Go _ _ _ _ _ _ _ s₁ (mkF m 44 #[.val (.ref aa), .val (.ref ab)] [(.int na)])
      refine Go.step (fun _ k => XS.iconst X0.here hx rfl (hb hby d5_44) k) ?_
      show Go _ _ _ _ _ _ _ s₁ (mkF m 45 #[.val (.ref aa), .val (.ref ab)] [(.int (2 : Int32)), (.int na)])
      have hc45_50 : ¬ ((2 : Int32) < na) := (by have := rng32 na; have : (0 : Int32).toInt = 0 := rfl; have : (1 : Int32).toInt = 1 := rfl; have : (2 : Int32).toInt = 2 := rfl; have : (3 : Int32).toInt = 3 := rfl; simp only [Int32.lt_iff_toInt_lt, Int32.le_iff_toInt_le, ← Int32.toInt_inj, Int64.lt_iff_toInt_lt, Int64.le_iff_toInt_le, ← Int64.toInt_inj] at hc11_22 ⊢; omega)
      refine Go.step (fun _ k => XS.icmpYes X0.here hx rfl (pc0 := 45) (pc' := 59) rfl (hb hby d5_45) rfl (flt hc45_50).2.2.2 (by decide) (by decide) k) ?_
      show Go _ _ _ _ _ _ _ s₁ (mkF m 59 #[.val (.ref aa), .val (.ref ab)] [])
      refine Go.step (fun _ k => XS.aloadN X0.here hx rfl (hb hby d5_59) rfl rfl k) ?_
      show Go _ _ _ _ _ _ _ s₁ (mkF m 60 #[.val (.ref aa), .val (.ref ab)] [(.ref aa)])
      obtain ⟨cl51, Ar51, -, S51, M51, -, -⟩ := id (Va)
      have al51 := X0.arraylength hx (by rw [e0]; exact Ar51.1) (State.isArrayOf_alike hZ.alike Ar51.2.1) (g := (mkF m 60 #[.val (.ref aa), .val (.ref ab)] [(.ref aa)])) rfl rfl (hb hby d5_60)
      rw [len_of S51 M51] at al51
      refine Go.step al51 ?_
      show Go _ _ _ _ _ _ _ s₁ (mkF m 61 #[.val (.ref aa), .val (.ref ab)] [(.int na)])
      refine Go.step (fun _ k => XS.iconst X0.here hx rfl (hb hby d5_61) k) ?_
      show Go _ _ _ _ _ _ _ s₁ (mkF m 62 #[.val (.ref aa), .val (.ref ab)] [(.int (3 : Int32)), (.int na)])
      have hc62_52 : ¬ ((3 : Int32) < na) := (by have := rng32 na; have : (0 : Int32).toInt = 0 := rfl; have : (1 : Int32).toInt = 1 := rfl; have : (2 : Int32).toInt = 2 := rfl; have : (3 : Int32).toInt = 3 := rfl; simp only [Int32.lt_iff_toInt_lt, Int32.le_iff_toInt_le, ← Int32.toInt_inj, Int64.lt_iff_toInt_lt, Int64.le_iff_toInt_le, ← Int64.toInt_inj] at hc11_22 ⊢; omega)
      refine Go.step (fun _ k => XS.icmpYes X0.here hx rfl (pc0 := 62) (pc' := 76) rfl (hb hby d5_62) rfl (flt hc62_52).2.2.2 (by decide) (by decide) k) ?_
      show Go _ _ _ _ _ _ _ s₁ (mkF m 76 #[.val (.ref aa), .val (.ref ab)] [])
      refine Go.step (fun _ k => XS.iconst X0.here hx rfl (hb hby d5_76) k) ?_
      show Go _ _ _ _ _ _ _ s₁ (mkF m 77 #[.val (.ref aa), .val (.ref ab)] [(.int (1 : Int32))])
      exact Go.retN X0 hx (t := .boolean) hret hlk (by simp) (hb hby d5_77) e0 (by decide) (by decide) ⟨(congrArg (fun z => some (Value.int z)) (if_pos (own_leq (by have := rng32 na; have := rng32 nb; have : (0 : Int32).toInt = 0 := rfl; have q1 := own_len4 ha ha0; have q2 := own_len4 hb_ hb_0; have e4 := hc4_20; simp only [Int32.lt_iff_toInt_lt, Int32.le_iff_toInt_le, ← Int32.toInt_inj, Int64.lt_iff_toInt_lt, Int64.le_iff_toInt_le, ← Int64.toInt_inj] at e4; omega) (fun i hi => match i, hi with | (k + 0), hk => absurd hk (Nat.not_lt.mpr (Nat.le_trans (show la.length ≤ 0 from (by have := rng32 na; have : (0 : Int32).toInt = 0 := rfl; have : (1 : Int32).toInt = 1 := rfl; have : (2 : Int32).toInt = 2 := rfl; have : (3 : Int32).toInt = 3 := rfl; have q1 := own_len4 ha ha0; simp only [Int32.lt_iff_toInt_lt, Int32.le_iff_toInt_le, ← Int32.toInt_inj, Int64.lt_iff_toInt_lt, Int64.le_iff_toInt_le, ← Int64.toInt_inj] at hc11_22; omega)) (Nat.le_add_left _ _)))))).symm), N0, rfl⟩
  · refine Go.step (fun _ k => XS.icmpNo X0.here hx rfl (hb hby d5_4) rfl (feq hc4_20).1 k) ?_
    show Go _ _ _ _ _ _ _ s₁ (mkF m 7 #[.val (.ref aa), .val (.ref ab)] [])
    refine Go.step (fun _ k => XS.iconst X0.here hx rfl (hb hby d5_7) k) ?_
    show Go _ _ _ _ _ _ _ s₁ (mkF m 8 #[.val (.ref aa), .val (.ref ab)] [(.int (0 : Int32))])
    exact Go.retN X0 hx (t := .boolean) hret hlk (by simp) (hb hby d5_8) e0 (by decide) (by decide) ⟨(congrArg (fun z => some (Value.int z)) (if_neg (fun q : la = lb => hc4_20 (by have := rng32 na; have := rng32 nb; have : (0 : Int32).toInt = 0 := rfl; have q1 := own_len4 ha ha0; have q2 := own_len4 hb_ hb_0; rw [q] at q1; simp only [Int32.lt_iff_toInt_lt, Int32.le_iff_toInt_le, ← Int32.toInt_inj, Int64.lt_iff_toInt_lt, Int64.le_iff_toInt_le, ← Int64.toInt_inj]; omega))).symm), N0, rfl⟩
def own_Ch (pl tl : List Int32) : Int32 → List Int32 → Prop
  | nd, [] => (0 ≤ nd.toInt ∧ nd.toInt < 5) ∧ pl.getD nd.toNatClampNeg 0 < 0
  | nd, k :: r => (0 ≤ nd.toInt ∧ nd.toInt < 5) ∧ pl.getD nd.toNatClampNeg 0 = k ∧ (0 ≤ k.toInt ∧ k.toInt < 3) ∧ own_Ch pl tl (tl.getD k.toNatClampNeg 0) r
theorem own_tk {lp : List Int32} {n : Nat} (h : n < lp.length) : lp.take (n + 1) = lp.take n ++ [lp.getD n 0] := by rw [List.take_add_one]; simp [List.getD_eq_getElem?_getD, h]
theorem own_tki {lp r : List Int32} {k : Int32} {n : Nat} (h : n < lp.length) : lp.take (n + 1) = (k :: r).reverse ↔ lp.getD n 0 = k ∧ lp.take n = r.reverse := by
  rw [own_tk h, List.reverse_cons]
  constructor
  · intro q; have := List.append_inj' q rfl; exact ⟨by simpa using this.2, this.1⟩
  · rintro ⟨q1, q2⟩; rw [q1, q2]
theorem own_dec {e : Int32} (h : 0 < e.toInt) : e.toNatClampNeg = (e + (-1 : Int32)).toNatClampNeg + 1 := by
  have := c_iadd e (-1); have := rng32 e; have := rng32 (e + (-1)); have : (-1 : Int32).toInt = -1 := rfl
  simp only [Int32.toNatClampNeg]; omega
theorem d4_0 : decode prog_45_method_7_code 0 = .ok (.aload_n 2, 1) := by decide +kernel
theorem d4_1 : decode prog_45_method_7_code 1 = .ok (.arraylength, 1) := by decide +kernel
theorem d4_2 : decode prog_45_method_7_code 2 = .ok (.istore_n 3, 1) := by decide +kernel
theorem d4_3 : decode prog_45_method_7_code 3 = .ok (.iload_n 1, 1) := by decide +kernel
theorem d4_4 : decode prog_45_method_7_code 4 = .ok (.istore 4, 2) := by decide +kernel
theorem d4_6 : decode prog_45_method_7_code 6 = .ok (.aload_n 0, 1) := by decide +kernel
theorem d4_7 : decode prog_45_method_7_code 7 = .ok (.getfield 17, 3) := by decide +kernel
theorem d4_10 : decode prog_45_method_7_code 10 = .ok (.iload 4, 2) := by decide +kernel
theorem d4_12 : decode prog_45_method_7_code 12 = .ok (.iaload, 1) := by decide +kernel
theorem d4_13 : decode prog_45_method_7_code 13 = .ok (.ifCond .lt 42, 3) := by decide +kernel
theorem d4_16 : decode prog_45_method_7_code 16 = .ok (.iload_n 3, 1) := by decide +kernel
theorem d4_17 : decode prog_45_method_7_code 17 = .ok (.ifCond .eq 19, 3) := by decide +kernel
theorem d4_20 : decode prog_45_method_7_code 20 = .ok (.aload_n 2, 1) := by decide +kernel
theorem d4_21 : decode prog_45_method_7_code 21 = .ok (.iinc 3 (-1), 3) := by decide +kernel
theorem d4_24 : decode prog_45_method_7_code 24 = .ok (.iload_n 3, 1) := by decide +kernel
theorem d4_25 : decode prog_45_method_7_code 25 = .ok (.iaload, 1) := by decide +kernel
theorem d4_26 : decode prog_45_method_7_code 26 = .ok (.aload_n 0, 1) := by decide +kernel
theorem d4_27 : decode prog_45_method_7_code 27 = .ok (.getfield 17, 3) := by decide +kernel
theorem d4_30 : decode prog_45_method_7_code 30 = .ok (.iload 4, 2) := by decide +kernel
theorem d4_32 : decode prog_45_method_7_code 32 = .ok (.iaload, 1) := by decide +kernel
theorem d4_33 : decode prog_45_method_7_code 33 = .ok (.if_icmp .eq 5, 3) := by decide +kernel
theorem d4_36 : decode prog_45_method_7_code 36 = .ok (.iconst 0, 1) := by decide +kernel
theorem d4_37 : decode prog_45_method_7_code 37 = .ok (.ireturn, 1) := by decide +kernel
theorem d4_38 : decode prog_45_method_7_code 38 = .ok (.aload_n 0, 1) := by decide +kernel
theorem d4_39 : decode prog_45_method_7_code 39 = .ok (.getfield 24, 3) := by decide +kernel
theorem d4_42 : decode prog_45_method_7_code 42 = .ok (.aload_n 0, 1) := by decide +kernel
theorem d4_43 : decode prog_45_method_7_code 43 = .ok (.getfield 17, 3) := by decide +kernel
theorem d4_46 : decode prog_45_method_7_code 46 = .ok (.iload 4, 2) := by decide +kernel
theorem d4_48 : decode prog_45_method_7_code 48 = .ok (.iaload, 1) := by decide +kernel
theorem d4_49 : decode prog_45_method_7_code 49 = .ok (.iaload, 1) := by decide +kernel
theorem d4_50 : decode prog_45_method_7_code 50 = .ok (.istore 4, 2) := by decide +kernel
theorem d4_52 : decode prog_45_method_7_code 52 = .ok (.goto (-46), 3) := by decide +kernel
theorem d4_55 : decode prog_45_method_7_code 55 = .ok (.iload_n 3, 1) := by decide +kernel
theorem d4_56 : decode prog_45_method_7_code 56 = .ok (.ifCond .ne 7, 3) := by decide +kernel
theorem d4_59 : decode prog_45_method_7_code 59 = .ok (.iconst 1, 1) := by decide +kernel
theorem d4_60 : decode prog_45_method_7_code 60 = .ok (.goto 4, 3) := by decide +kernel
theorem d4_63 : decode prog_45_method_7_code 63 = .ok (.iconst 0, 1) := by decide +kernel
theorem d4_64 : decode prog_45_method_7_code 64 = .ok (.ireturn, 1) := by decide +kernel
theorem ef_rmIs (m : MethodId) (ao : Addr) (nd : Int32) (aq : Addr) : entryFrame m #[(.ref ao), (.int nd), (.ref aq)] 5 = mkF m 0 #[.val (.ref ao), .val (.int nd), .val (.ref aq), .unset, .unset] [] := by first | (simp [entryFrame, mkF, argsToLocals, Value.category]; done) | rfl
theorem own_ar9 (cu : Int32) (hh0 : 0 ≤ cu.toInt ∧ cu.toInt < 5) : ¬ (cu < (0 : Int32)) := by have := rng32 cu; have : (0 : Int32).toInt = 0 := rfl; simp only [Int32.lt_iff_toInt_lt, Int32.le_iff_toInt_le, ← Int32.toInt_inj, Int64.lt_iff_toInt_lt, Int64.le_iff_toInt_le, ← Int64.toInt_inj]; omega
theorem own_ar10 (cu : Int32) (hh0 : 0 ≤ cu.toInt ∧ cu.toInt < 5) : cu < (5 : Int32) := by have := rng32 cu; have : (5 : Int32).toInt = 5 := rfl; simp only [Int32.lt_iff_toInt_lt, Int32.le_iff_toInt_le, ← Int32.toInt_inj, Int64.lt_iff_toInt_lt, Int64.le_iff_toInt_le, ← Int64.toInt_inj]; omega
theorem own_ar11 (kk : Int32) (hh0 : 0 ≤ kk.toInt ∧ kk.toInt < 3) : ¬ (kk < (0 : Int32)) := by have := rng32 kk; have : (0 : Int32).toInt = 0 := rfl; simp only [Int32.lt_iff_toInt_lt, Int32.le_iff_toInt_le, ← Int32.toInt_inj, Int64.lt_iff_toInt_lt, Int64.le_iff_toInt_le, ← Int64.toInt_inj]; omega
theorem own_ar12 (en : Int32) (hh0 : 0 < en.toInt) : ¬ ((en + (-1 : Int32)) < (0 : Int32)) := by have := rng32 en; have : (-1 : Int32).toInt = -1 := rfl; have := rng32 (en + (-1 : Int32)); have := c_iadd en (-1 : Int32); have : (0 : Int32).toInt = 0 := rfl; simp only [Int32.lt_iff_toInt_lt, Int32.le_iff_toInt_le, ← Int32.toInt_inj, Int64.lt_iff_toInt_lt, Int64.le_iff_toInt_le, ← Int64.toInt_inj]; omega
theorem own_ar13 (en : Int32) (nq : Int32) (hh0 : 0 ≤ en.toInt ∧ en.toInt ≤ nq.toInt) (hh1 : 0 < en.toInt) : (en + (-1 : Int32)) < nq := by have := rng32 en; have : (-1 : Int32).toInt = -1 := rfl; have := rng32 (en + (-1 : Int32)); have := c_iadd en (-1 : Int32); have := rng32 nq; simp only [Int32.lt_iff_toInt_lt, Int32.le_iff_toInt_le, ← Int32.toInt_inj, Int64.lt_iff_toInt_lt, Int64.le_iff_toInt_le, ← Int64.toInt_inj]; omega
theorem own_ar14 (kk : Int32) (hh0 : 0 ≤ kk.toInt ∧ kk.toInt < 3) : kk < (3 : Int32) := by have := rng32 kk; have : (3 : Int32).toInt = 3 := rfl; simp only [Int32.lt_iff_toInt_lt, Int32.le_iff_toInt_le, ← Int32.toInt_inj, Int64.lt_iff_toInt_lt, Int64.le_iff_toInt_le, ← Int64.toInt_inj]; omega
theorem own_ar15 (en : Int32) (nq : Int32) (hh0 : 0 ≤ en.toInt ∧ en.toInt ≤ nq.toInt) (hh1 : 0 < en.toInt) : 0 ≤ (en + (-1 : Int32)).toInt ∧ (en + (-1 : Int32)).toInt ≤ nq.toInt := by have := rng32 en; have : (-1 : Int32).toInt = -1 := rfl; have := rng32 (en + (-1 : Int32)); have := c_iadd en (-1 : Int32); have := rng32 nq; omega
theorem own_ar16 (nq : Int32) (hh0 : ¬ nq < 0) : 0 ≤ nq.toInt ∧ nq.toInt ≤ nq.toInt := by have := rng32 nq; have : (0 : Int32).toInt = 0 := rfl; simp only [Int32.lt_iff_toInt_lt, Int32.le_iff_toInt_le, ← Int32.toInt_inj, Int64.lt_iff_toInt_lt, Int64.le_iff_toInt_le, ← Int64.toInt_inj] at hh0 ; omega
def Q_rmIs (Z : State) (ao : Addr) (nd : Int32) (aq : Addr) (ap : Addr) (kp : ClassId) (pl : List Int32) (at_ : Addr) (kt : ClassId) (tl : List Int32) (kq : ClassId) (nq : Int32) (lq : List Int32) (ls0 : List Int32) (h0 : Heap) (n0 : Nat) (v : Option Value) (h : Heap) (L : List Loc) : Prop := (v = some (.int (if lq = ls0.reverse then (1 : Int32) else 0))) ∧ (Fr n0 L) ∧ (h = h0)
set_option maxRecDepth 65536 in
set_option maxHeartbeats 40000000 in
theorem rmIs (l : Launch) (Z : State) (a0 : Array Value) (hw : ∀ d ∈ tables_1, d.before a0 Z = true) (ws : List Jvm.Cond) (ao : Addr) (nd : Int32) (aq : Addr) (ap : Addr) (kp : ClassId) (pl : List Int32) (at_ : Addr) (kt : ClassId) (tl : List Int32) (kq : ClassId) (nq : Int32) (lq : List Int32) (ls0 : List Int32) (h0 : Heap) (n0 : Nat) (Z0 : n0 ≤ h0.size) (E0 : Exa Z h0 ao "com/example/wayfront/wayfront/paths/ShortestPathTree") (Fp : Fld Z h0 ao "com/example/wayfront/wayfront/paths/ShortestPathTree" "predecessor" "[I" (.ref ap)) (Ft : Fld Z h0 ao "com/example/wayfront/wayfront/paths/ShortestPathTree" "tail" "[I" (.ref at_)) (Vp : Arv Z h0 ap kp .int (5 : Int32) (pl.map Value.int) (.int (0 : Int32))) (Vt : Arv Z h0 at_ kt .int (3 : Int32) (tl.map Value.int) (.int (0 : Int32))) (Vq : Arv Z h0 aq kq .int nq (lq.map Value.int) (.int (0 : Int32))) (hpl : pl.length = 5) (htl : tl.length = 3) (hlq : lq.length = nq.toNatClampNeg) (hnq : ¬ nq < 0) (hch : own_Ch pl tl nd ls0) :
    MetFree l (⟨"com/example/wayfront/wayfront/paths/ShortestPathTree", "isPathTo", "(I[I)Z"⟩ : MethodName) (head1 (Jvm.Cond.code (⟨"com/example/wayfront/wayfront/paths/ShortestPathTree", "isPathTo", "(I[I)Z"⟩ : MethodName) prog_45_method_7_code 5 (some .boolean) :: ws) ({ frames := 0, cells := 0, slots := 0, locals := 0 } : Room)) (fun aA U => aA = #[(.ref ao), (.int nd), (.ref aq)] ∧ Z.Warmed39 U.vm ∧ U.heap = h0) (fun _ _ _ _ _ => True) (fun _ U o U' => ∃ v L, o = .returned v ∧ Q_rmIs Z ao nd aq ap kp pl at_ kt tl kq nq lq ls0 h0 n0 v U'.heap L ∧ FrameEnd U o U' L ({ frames := 0, cells := 0, slots := 0, locals := 0 } : Room).cells ({ frames := 0, cells := 0, slots := 0, locals := 0 } : Room).slots) := by
  refine MetFree.of_bodySF (plainFor_of_name pn_com_example_wayfront_wayfront_paths_ShortestPathTree) hisR ?_
  intro p e s m args below meth c s₁ Bd hml0 hP hK
  obtain ⟨rfl, hZ, hh⟩ := hP
  have hx := Bd.exec
  have hby := Bd.bytes
  have hml : c.maxLocals = 5 := hml0
  have hown : s.vm.findClass "com/example/wayfront/wayfront/paths/ShortestPathTree" = some m.cls := findClass_of_methodNamed Bd.named
  have hnm := (name_of_methodNamed Bd.named Bd.method).1
  have hret := Bd.returns
  have hlk : meth.locks = false := BodyLoose.notSynchronized Bd
  have X0 : Stand p l e ({ frames := 0, cells := 0, slots := 0, locals := 0 } : Room) s m #[(.ref ao), (.int nd), (.ref aq)] below meth c s₁ [] 0 0 := Stand.of_body Bd
  have e0 : s₁.heap = h0 := by rw [← hh, Bd.state]; rfl
  have N0 := Fr.nil n0
  suffices hgo : Go p e below s ({ frames := 0, cells := 0, slots := 0, locals := 0 } : Room).cells ({ frames := 0, cells := 0, slots := 0, locals := 0 } : Room).slots (Q_rmIs Z ao nd aq ap kp pl at_ kt tl kq nq lq ls0 h0 n0) s₁ (mkF m 0 #[.val (.ref ao), .val (.int nd), .val (.ref aq), .unset, .unset] []) from hgo.enter (ef_rmIs m ao nd aq)
  refine Go.step (fun _ k => XS.aloadN X0.here hx rfl (hb hby d4_0) rfl rfl k) ?_
  show Go _ _ _ _ _ _ _ s₁ (mkF m 1 #[.val (.ref ao), .val (.int nd), .val (.ref aq), .unset, .unset] [(.ref aq)])
  obtain ⟨cl53, Ar53, -, S53, M53, -, -⟩ := id (Vq)
  have al53 := X0.arraylength hx (by rw [e0]; exact Ar53.1) (State.isArrayOf_alike hZ.alike Ar53.2.1) (g := (mkF m 1 #[.val (.ref ao), .val (.int nd), .val (.ref aq), .unset, .unset] [(.ref aq)])) rfl rfl (hb hby d4_1)
  rw [len_of S53 M53] at al53
  refine Go.step al53 ?_
  show Go _ _ _ _ _ _ _ s₁ (mkF m 2 #[.val (.ref ao), .val (.int nd), .val (.ref aq), .unset, .unset] [(.int nq)])
  refine Go.step (fun _ k => XS.istoreN X0.here hx rfl (hb hby d4_2) rfl (l' := #[.val (.ref ao), .val (.int nd), .val (.ref aq), .val (.int nq), .unset]) rfl k) ?_
  show Go _ _ _ _ _ _ _ s₁ (mkF m 3 #[.val (.ref ao), .val (.int nd), .val (.ref aq), .val (.int nq), .unset] [])
  refine Go.step (fun _ k => XS.iloadN X0.here hx rfl (hb hby d4_3) rfl k) ?_
  show Go _ _ _ _ _ _ _ s₁ (mkF m 4 #[.val (.ref ao), .val (.int nd), .val (.ref aq), .val (.int nq), .unset] [(.int nd)])
  refine Go.step (fun _ k => XS.istore X0.here hx rfl (hb hby d4_4) rfl (l' := #[.val (.ref ao), .val (.int nd), .val (.ref aq), .val (.int nq), .val (.int nd)]) rfl k) ?_
  show Go _ _ _ _ _ _ _ s₁ (mkF m 6 #[.val (.ref ao), .val (.int nd), .val (.ref aq), .val (.int nq), .val (.int nd)] [])
  have LOOP : ∀ (ls : List Int32) (Tl : State) (Ll : List Loc) (cu en : Int32), Stand p l e ({ frames := 0, cells := 0, slots := 0, locals := 0 } : Room) s m #[(.ref ao), (.int nd), (.ref aq)] below meth c Tl Ll 0 0 → Tl.heap = h0 → Fr n0 Ll → own_Ch pl tl cu ls → (0 ≤ en.toInt ∧ en.toInt ≤ nq.toInt) → (lq = ls0.reverse ↔ lq.take en.toNatClampNeg = ls.reverse) → Go p e below s ({ frames := 0, cells := 0, slots := 0, locals := 0 } : Room).cells ({ frames := 0, cells := 0, slots := 0, locals := 0 } : Room).slots (Q_rmIs Z ao nd aq ap kp pl at_ kt tl kq nq lq ls0 h0 n0) Tl (mkF m 6 #[.val (.ref ao), .val (.int nd), .val (.ref aq), .val (.int en), .val (.int cu)] []) := by
    have hql := own_len4 hlq hnq
    intro ls
    induction ls with
    | nil =>
      intro Tl Ll cu en Xl el Nl hch' he hI
      obtain ⟨hc1, hc2⟩ := hch'
      show Go _ _ _ _ _ _ _ Tl (mkF m 6 #[.val (.ref ao), .val (.int nd), .val (.ref aq), .val (.int en), .val (.int cu)] [])
      refine Go.step (fun _ k => XS.aloadN Xl.here hx rfl (hb hby d4_6) rfl rfl k) ?_
      show Go _ _ _ _ _ _ _ Tl (mkF m 7 #[.val (.ref ao), .val (.int nd), .val (.ref aq), .val (.int en), .val (.int cu)] [(.ref ao)])
      obtain ⟨T54, X54, e54, st54⟩ := getF Xl hx hZ hown (host := "") (Or.inl (hw _ (List.mem_of_getElem? (i := 22) rfl))) Via.refl el Fp (g := (mkF m 7 #[.val (.ref ao), .val (.int nd), .val (.ref aq), .val (.int en), .val (.int cu)] [(.ref ao)])) rfl rfl (hb hby d4_7)
      refine Go.step st54 ?_
      show Go _ _ _ _ _ _ _ T54 (mkF m 10 #[.val (.ref ao), .val (.int nd), .val (.ref aq), .val (.int en), .val (.int cu)] [(.ref ap)])
      refine Go.step (fun _ k => XS.iload X54.here hx rfl (hb hby d4_10) rfl k) ?_
      show Go _ _ _ _ _ _ _ T54 (mkF m 12 #[.val (.ref ao), .val (.int nd), .val (.ref aq), .val (.int en), .val (.int cu)] [(.int cu), (.ref ap)])
      obtain ⟨cl55, Ar55, q55, S55, M55, H55, G55⟩ := id (Vp)
      have hin55 : ¬ (cu < 0 ∨ cl55.slots.size ≤ (cu).toNatClampNeg) := inb_of S55 ⟨(own_ar9 cu hc1), (own_ar10 cu hc1)⟩
      have hat55 : cl55.slots[(cu).toNatClampNeg]? = some (.int (pl.getD cu.toNatClampNeg 0)) := H55.at hin55 (own_mg (by rw [hpl]; exact own_tn (n := 5) hc1.1 hc1.2))
      refine Go.step (X54.iaload hx (j := cu) (v := (.int (pl.getD cu.toNatClampNeg 0))) (by rw [e54]; exact Ar55.1) (State.isArrayOf_alike hZ.alike Ar55.2.1) Ar55.2.2 hin55 hat55 (g := (mkF m 12 #[.val (.ref ao), .val (.int nd), .val (.ref aq), .val (.int en), .val (.int cu)] [(.int cu), (.ref ap)])) rfl rfl (hb hby d4_12)) ?_
      show Go _ _ _ _ _ _ _ T54 (mkF m 13 #[.val (.ref ao), .val (.int nd), .val (.ref aq), .val (.int en), .val (.int cu)] [(.int (pl.getD cu.toNatClampNeg 0))])
      have hc13_56 : (pl.getD cu.toNatClampNeg 0) < (0 : Int32) := hc2
      refine Go.step (fun _ k => XS.ifYes X54.here hx rfl (pc0 := 13) (pc' := 55) rfl (hb hby d4_13) rfl ((if0 _ _).trans (tlt hc13_56).1) (by decide) (by decide) k) ?_
      show Go _ _ _ _ _ _ _ T54 (mkF m 55 #[.val (.ref ao), .val (.int nd), .val (.ref aq), .val (.int en), .val (.int cu)] [])
      refine Go.step (fun _ k => XS.iloadN X54.here hx rfl (hb hby d4_55) rfl k) ?_
      show Go _ _ _ _ _ _ _ T54 (mkF m 56 #[.val (.ref ao), .val (.int nd), .val (.ref aq), .val (.int en), .val (.int cu)] [(.int en)])
      by_cases hc56_57 : en = (0 : Int32)
      · refine Go.step (fun _ k => XS.ifNo X54.here hx rfl (hb hby d4_56) rfl ((if0 _ _).trans (teq hc56_57).2) k) ?_
        show Go _ _ _ _ _ _ _ T54 (mkF m 59 #[.val (.ref ao), .val (.int nd), .val (.ref aq), .val (.int en), .val (.int cu)] [])
        refine Go.step (fun _ k => XS.iconst X54.here hx rfl (hb hby d4_59) k) ?_
        show Go _ _ _ _ _ _ _ T54 (mkF m 60 #[.val (.ref ao), .val (.int nd), .val (.ref aq), .val (.int en), .val (.int cu)] [(.int (1 : Int32))])
        refine Go.step (fun _ k => XS.goto X54.here hx rfl (pc0 := 60) (pc' := 64) rfl (hb hby d4_60) (by decide) (by decide) k) ?_
        show Go _ _ _ _ _ _ _ T54 (mkF m 64 #[.val (.ref ao), .val (.int nd), .val (.ref aq), .val (.int en), .val (.int cu)] [(.int (1 : Int32))])
        exact Go.retN X54 hx (t := .boolean) hret hlk (by simp) (hb hby d4_64) e54 (by decide) (by decide) ⟨(congrArg (fun z => some (Value.int z)) (if_pos (hI.mpr (by rw [hc56_57]; rfl))).symm), Nl, rfl⟩
      · refine Go.step (fun _ k => XS.ifYes X54.here hx rfl (pc0 := 56) (pc' := 63) rfl (hb hby d4_56) rfl ((if0 _ _).trans (feq hc56_57).2) (by decide) (by decide) k) ?_
        show Go _ _ _ _ _ _ _ T54 (mkF m 63 #[.val (.ref ao), .val (.int nd), .val (.ref aq), .val (.int en), .val (.int cu)] [])
        refine Go.step (fun _ k => XS.iconst X54.here hx rfl (hb hby d4_63) k) ?_
        show Go _ _ _ _ _ _ _ T54 (mkF m 64 #[.val (.ref ao), .val (.int nd), .val (.ref aq), .val (.int en), .val (.int cu)] [(.int (0 : Int32))])
        exact Go.retN X54 hx (t := .boolean) hret hlk (by simp) (hb hby d4_64) e54 (by decide) (by decide) ⟨(congrArg (fun z => some (Value.int z)) (if_neg (fun q => absurd (hI.mp q) (by intro q2; have q3 := congrArg List.length q2; simp only [List.length_take, List.reverse_nil, List.length_nil] at q3; have q4 := hc56_57; have q5 := he; have q6 := hql; have := rng32 en; have : (0 : Int32).toInt = 0 := rfl; simp only [Int32.lt_iff_toInt_lt, Int32.le_iff_toInt_le, ← Int32.toInt_inj, Int64.lt_iff_toInt_lt, Int64.le_iff_toInt_le, ← Int64.toInt_inj] at q4; have : en.toNatClampNeg = en.toInt.toNat := rfl; omega))).symm), Nl, rfl⟩
    | cons kk rr ih =>
      intro Tl Ll cu en Xl el Nl hch' he hI
      obtain ⟨hc1, hc2, hc3, hc4⟩ := hch'
      show Go _ _ _ _ _ _ _ Tl (mkF m 6 #[.val (.ref ao), .val (.int nd), .val (.ref aq), .val (.int en), .val (.int cu)] [])
      refine Go.step (fun _ k => XS.aloadN Xl.here hx rfl (hb hby d4_6) rfl rfl k) ?_
      show Go _ _ _ _ _ _ _ Tl (mkF m 7 #[.val (.ref ao), .val (.int nd), .val (.ref aq), .val (.int en), .val (.int cu)] [(.ref ao)])
      obtain ⟨T58, X58, e58, st58⟩ := getF Xl hx hZ hown (host := "") (Or.inl (hw _ (List.mem_of_getElem? (i := 22) rfl))) Via.refl el Fp (g := (mkF m 7 #[.val (.ref ao), .val (.int nd), .val (.ref aq), .val (.int en), .val (.int cu)] [(.ref ao)])) rfl rfl (hb hby d4_7)
      refine Go.step st58 ?_
      show Go _ _ _ _ _ _ _ T58 (mkF m 10 #[.val (.ref ao), .val (.int nd), .val (.ref aq), .val (.int en), .val (.int cu)] [(.ref ap)])
      refine Go.step (fun _ k => XS.iload X58.here hx rfl (hb hby d4_10) rfl k) ?_
      show Go _ _ _ _ _ _ _ T58 (mkF m 12 #[.val (.ref ao), .val (.int nd), .val (.ref aq), .val (.int en), .val (.int cu)] [(.int cu), (.ref ap)])
      obtain ⟨cl59, Ar59, q59, S59, M59, H59, G59⟩ := id (Vp)
      have hin59 : ¬ (cu < 0 ∨ cl59.slots.size ≤ (cu).toNatClampNeg) := inb_of S59 ⟨(own_ar9 cu hc1), (own_ar10 cu hc1)⟩
      have hat59 : cl59.slots[(cu).toNatClampNeg]? = some (.int kk) := H59.at hin59 ((own_mg (by rw [hpl]; exact own_tn (n := 5) hc1.1 hc1.2)).trans (by rw [hc2]))
      refine Go.step (X58.iaload hx (j := cu) (v := (.int kk)) (by rw [e58]; exact Ar59.1) (State.isArrayOf_alike hZ.alike Ar59.2.1) Ar59.2.2 hin59 hat59 (g := (mkF m 12 #[.val (.ref ao), .val (.int nd), .val (.ref aq), .val (.int en), .val (.int cu)] [(.int cu), (.ref ap)])) rfl rfl (hb hby d4_12)) ?_
      show Go _ _ _ _ _ _ _ T58 (mkF m 13 #[.val (.ref ao), .val (.int nd), .val (.ref aq), .val (.int en), .val (.int cu)] [(.int kk)])
      have hc13_60 : ¬ (kk < (0 : Int32)) := (own_ar11 kk hc3)
      refine Go.step (fun _ k => XS.ifNo X58.here hx rfl (hb hby d4_13) rfl ((if0 _ _).trans (flt hc13_60).1) k) ?_
      show Go _ _ _ _ _ _ _ T58 (mkF m 16 #[.val (.ref ao), .val (.int nd), .val (.ref aq), .val (.int en), .val (.int cu)] [])
      refine Go.step (fun _ k => XS.iloadN X58.here hx rfl (hb hby d4_16) rfl k) ?_
      show Go _ _ _ _ _ _ _ T58 (mkF m 17 #[.val (.ref ao), .val (.int nd), .val (.ref aq), .val (.int en), .val (.int cu)] [(.int en)])
      by_cases hc17_61 : en = (0 : Int32)
      · refine Go.step (fun _ k => XS.ifYes X58.here hx rfl (pc0 := 17) (pc' := 36) rfl (hb hby d4_17) rfl ((if0 _ _).trans (teq hc17_61).1) (by decide) (by decide) k) ?_
        show Go _ _ _ _ _ _ _ T58 (mkF m 36 #[.val (.ref ao), .val (.int nd), .val (.ref aq), .val (.int en), .val (.int cu)] [])
        refine Go.step (fun _ k => XS.iconst X58.here hx rfl (hb hby d4_36) k) ?_
        show Go _ _ _ _ _ _ _ T58 (mkF m 37 #[.val (.ref ao), .val (.int nd), .val (.ref aq), .val (.int en), .val (.int cu)] [(.int (0 : Int32))])
        exact Go.retN X58 hx (t := .boolean) hret hlk (by simp) (hb hby d4_37) e58 (by decide) (by decide) ⟨(congrArg (fun z => some (Value.int z)) (if_neg (fun q => absurd (hI.mp q) (by rw [hc17_61]; intro q2; simp at q2))).symm), Nl, rfl⟩
      · refine Go.step (fun _ k => XS.ifNo X58.here hx rfl (hb hby d4_17) rfl ((if0 _ _).trans (feq hc17_61).1) k) ?_
        show Go _ _ _ _ _ _ _ T58 (mkF m 20 #[.val (.ref ao), .val (.int nd), .val (.ref aq), .val (.int en), .val (.int cu)] [])
        have hpos : 0 < en.toInt := by have q1 := he; have q2 := hc17_61; have := rng32 en; have : (0 : Int32).toInt = 0 := rfl; simp only [Int32.lt_iff_toInt_lt, Int32.le_iff_toInt_le, ← Int32.toInt_inj, Int64.lt_iff_toInt_lt, Int64.le_iff_toInt_le, ← Int64.toInt_inj] at q2; omega
        have hin1 : (en + (-1 : Int32)).toNatClampNeg < lq.length := by have q1 := he; have q3 := own_dec hpos; have q4 := hql; have : en.toNatClampNeg = en.toInt.toNat := rfl; omega
        refine Go.step (fun _ k => XS.aloadN X58.here hx rfl (hb hby d4_20) rfl rfl k) ?_
        show Go _ _ _ _ _ _ _ T58 (mkF m 21 #[.val (.ref ao), .val (.int nd), .val (.ref aq), .val (.int en), .val (.int cu)] [(.ref aq)])
        refine Go.step (fun _ k => XS.iinc X58.here hx rfl (hb hby d4_21) rfl (l' := #[.val (.ref ao), .val (.int nd), .val (.ref aq), .val (.int (en + (-1 : Int32))), .val (.int cu)]) rfl k) ?_
        show Go _ _ _ _ _ _ _ T58 (mkF m 24 #[.val (.ref ao), .val (.int nd), .val (.ref aq), .val (.int (en + (-1 : Int32))), .val (.int cu)] [(.ref aq)])
        refine Go.step (fun _ k => XS.iloadN X58.here hx rfl (hb hby d4_24) rfl k) ?_
        show Go _ _ _ _ _ _ _ T58 (mkF m 25 #[.val (.ref ao), .val (.int nd), .val (.ref aq), .val (.int (en + (-1 : Int32))), .val (.int cu)] [(.int (en + (-1 : Int32))), (.ref aq)])
        obtain ⟨cl62, Ar62, q62, S62, M62, H62, G62⟩ := id (Vq)
        have hin62 : ¬ ((en + (-1 : Int32)) < 0 ∨ cl62.slots.size ≤ ((en + (-1 : Int32))).toNatClampNeg) := inb_of S62 ⟨(own_ar12 en hpos), (own_ar13 en nq he hpos)⟩
        have hat62 : cl62.slots[((en + (-1 : Int32))).toNatClampNeg]? = some (.int (lq.getD ((en + (-1 : Int32))).toNatClampNeg 0)) := H62.at hin62 (own_mg hin1)
        refine Go.step (X58.iaload hx (j := (en + (-1 : Int32))) (v := (.int (lq.getD ((en + (-1 : Int32))).toNatClampNeg 0))) (by rw [e58]; exact Ar62.1) (State.isArrayOf_alike hZ.alike Ar62.2.1) Ar62.2.2 hin62 hat62 (g := (mkF m 25 #[.val (.ref ao), .val (.int nd), .val (.ref aq), .val (.int (en + (-1 : Int32))), .val (.int cu)] [(.int (en + (-1 : Int32))), (.ref aq)])) rfl rfl (hb hby d4_25)) ?_
        show Go _ _ _ _ _ _ _ T58 (mkF m 26 #[.val (.ref ao), .val (.int nd), .val (.ref aq), .val (.int (en + (-1 : Int32))), .val (.int cu)] [(.int (lq.getD ((en + (-1 : Int32))).toNatClampNeg 0))])
        refine Go.step (fun _ k => XS.aloadN X58.here hx rfl (hb hby d4_26) rfl rfl k) ?_
        show Go _ _ _ _ _ _ _ T58 (mkF m 27 #[.val (.ref ao), .val (.int nd), .val (.ref aq), .val (.int (en + (-1 : Int32))), .val (.int cu)] [(.ref ao), (.int (lq.getD ((en + (-1 : Int32))).toNatClampNeg 0))])
        obtain ⟨T63, X63, e63, st63⟩ := getF X58 hx hZ hown (host := "") (Or.inl (hw _ (List.mem_of_getElem? (i := 22) rfl))) Via.refl e58 Fp (g := (mkF m 27 #[.val (.ref ao), .val (.int nd), .val (.ref aq), .val (.int (en + (-1 : Int32))), .val (.int cu)] [(.ref ao), (.int (lq.getD ((en + (-1 : Int32))).toNatClampNeg 0))])) rfl rfl (hb hby d4_27)
        refine Go.step st63 ?_
        show Go _ _ _ _ _ _ _ T63 (mkF m 30 #[.val (.ref ao), .val (.int nd), .val (.ref aq), .val (.int (en + (-1 : Int32))), .val (.int cu)] [(.ref ap), (.int (lq.getD ((en + (-1 : Int32))).toNatClampNeg 0))])
        refine Go.step (fun _ k => XS.iload X63.here hx rfl (hb hby d4_30) rfl k) ?_
        show Go _ _ _ _ _ _ _ T63 (mkF m 32 #[.val (.ref ao), .val (.int nd), .val (.ref aq), .val (.int (en + (-1 : Int32))), .val (.int cu)] [(.int cu), (.ref ap), (.int (lq.getD ((en + (-1 : Int32))).toNatClampNeg 0))])
        obtain ⟨cl64, Ar64, q64, S64, M64, H64, G64⟩ := id (Vp)
        have hin64 : ¬ (cu < 0 ∨ cl64.slots.size ≤ (cu).toNatClampNeg) := inb_of S64 ⟨(own_ar9 cu hc1), (own_ar10 cu hc1)⟩
        have hat64 : cl64.slots[(cu).toNatClampNeg]? = some (.int kk) := H64.at hin64 ((own_mg (by rw [hpl]; exact own_tn (n := 5) hc1.1 hc1.2)).trans (by rw [hc2]))
        refine Go.step (X63.iaload hx (j := cu) (v := (.int kk)) (by rw [e63]; exact Ar64.1) (State.isArrayOf_alike hZ.alike Ar64.2.1) Ar64.2.2 hin64 hat64 (g := (mkF m 32 #[.val (.ref ao), .val (.int nd), .val (.ref aq), .val (.int (en + (-1 : Int32))), .val (.int cu)] [(.int cu), (.ref ap), (.int (lq.getD ((en + (-1 : Int32))).toNatClampNeg 0))])) rfl rfl (hb hby d4_32)) ?_
        show Go _ _ _ _ _ _ _ T63 (mkF m 33 #[.val (.ref ao), .val (.int nd), .val (.ref aq), .val (.int (en + (-1 : Int32))), .val (.int cu)] [(.int kk), (.int (lq.getD ((en + (-1 : Int32))).toNatClampNeg 0))])
        by_cases hc33_65 : (lq.getD ((en + (-1 : Int32))).toNatClampNeg 0) = kk
        · refine Go.step (fun _ k => XS.icmpYes X63.here hx rfl (pc0 := 33) (pc' := 38) rfl (hb hby d4_33) rfl (teq hc33_65).1 (by decide) (by decide) k) ?_
          show Go _ _ _ _ _ _ _ T63 (mkF m 38 #[.val (.ref ao), .val (.int nd), .val (.ref aq), .val (.int (en + (-1 : Int32))), .val (.int cu)] [])
          refine Go.step (fun _ k => XS.aloadN X63.here hx rfl (hb hby d4_38) rfl rfl k) ?_
          show Go _ _ _ _ _ _ _ T63 (mkF m 39 #[.val (.ref ao), .val (.int nd), .val (.ref aq), .val (.int (en + (-1 : Int32))), .val (.int cu)] [(.ref ao)])
          obtain ⟨T66, X66, e66, st66⟩ := getF X63 hx hZ hown (host := "") (Or.inl (hw _ (List.mem_of_getElem? (i := 26) rfl))) Via.refl e63 Ft (g := (mkF m 39 #[.val (.ref ao), .val (.int nd), .val (.ref aq), .val (.int (en + (-1 : Int32))), .val (.int cu)] [(.ref ao)])) rfl rfl (hb hby d4_39)
          refine Go.step st66 ?_
          show Go _ _ _ _ _ _ _ T66 (mkF m 42 #[.val (.ref ao), .val (.int nd), .val (.ref aq), .val (.int (en + (-1 : Int32))), .val (.int cu)] [(.ref at_)])
          refine Go.step (fun _ k => XS.aloadN X66.here hx rfl (hb hby d4_42) rfl rfl k) ?_
          show Go _ _ _ _ _ _ _ T66 (mkF m 43 #[.val (.ref ao), .val (.int nd), .val (.ref aq), .val (.int (en + (-1 : Int32))), .val (.int cu)] [(.ref ao), (.ref at_)])
          obtain ⟨T67, X67, e67, st67⟩ := getF X66 hx hZ hown (host := "") (Or.inl (hw _ (List.mem_of_getElem? (i := 22) rfl))) Via.refl e66 Fp (g := (mkF m 43 #[.val (.ref ao), .val (.int nd), .val (.ref aq), .val (.int (en + (-1 : Int32))), .val (.int cu)] [(.ref ao), (.ref at_)])) rfl rfl (hb hby d4_43)
          refine Go.step st67 ?_
          show Go _ _ _ _ _ _ _ T67 (mkF m 46 #[.val (.ref ao), .val (.int nd), .val (.ref aq), .val (.int (en + (-1 : Int32))), .val (.int cu)] [(.ref ap), (.ref at_)])
          refine Go.step (fun _ k => XS.iload X67.here hx rfl (hb hby d4_46) rfl k) ?_
          show Go _ _ _ _ _ _ _ T67 (mkF m 48 #[.val (.ref ao), .val (.int nd), .val (.ref aq), .val (.int (en + (-1 : Int32))), .val (.int cu)] [(.int cu), (.ref ap), (.ref at_)])
          obtain ⟨cl68, Ar68, q68, S68, M68, H68, G68⟩ := id (Vp)
          have hin68 : ¬ (cu < 0 ∨ cl68.slots.size ≤ (cu).toNatClampNeg) := inb_of S68 ⟨(own_ar9 cu hc1), (own_ar10 cu hc1)⟩
          have hat68 : cl68.slots[(cu).toNatClampNeg]? = some (.int kk) := H68.at hin68 ((own_mg (by rw [hpl]; exact own_tn (n := 5) hc1.1 hc1.2)).trans (by rw [hc2]))
          refine Go.step (X67.iaload hx (j := cu) (v := (.int kk)) (by rw [e67]; exact Ar68.1) (State.isArrayOf_alike hZ.alike Ar68.2.1) Ar68.2.2 hin68 hat68 (g := (mkF m 48 #[.val (.ref ao), .val (.int nd), .val (.ref aq), .val (.int (en + (-1 : Int32))), .val (.int cu)] [(.int cu), (.ref ap), (.ref at_)])) rfl rfl (hb hby d4_48)) ?_
          show Go _ _ _ _ _ _ _ T67 (mkF m 49 #[.val (.ref ao), .val (.int nd), .val (.ref aq), .val (.int (en + (-1 : Int32))), .val (.int cu)] [(.int kk), (.ref at_)])
          obtain ⟨cl69, Ar69, q69, S69, M69, H69, G69⟩ := id (Vt)
          have hin69 : ¬ (kk < 0 ∨ cl69.slots.size ≤ (kk).toNatClampNeg) := inb_of S69 ⟨(own_ar11 kk hc3), (own_ar14 kk hc3)⟩
          have hat69 : cl69.slots[(kk).toNatClampNeg]? = some (.int (tl.getD kk.toNatClampNeg 0)) := H69.at hin69 (own_mg (by rw [htl]; exact own_tn (n := 3) hc3.1 hc3.2))
          refine Go.step (X67.iaload hx (j := kk) (v := (.int (tl.getD kk.toNatClampNeg 0))) (by rw [e67]; exact Ar69.1) (State.isArrayOf_alike hZ.alike Ar69.2.1) Ar69.2.2 hin69 hat69 (g := (mkF m 49 #[.val (.ref ao), .val (.int nd), .val (.ref aq), .val (.int (en + (-1 : Int32))), .val (.int cu)] [(.int kk), (.ref at_)])) rfl rfl (hb hby d4_49)) ?_
          show Go _ _ _ _ _ _ _ T67 (mkF m 50 #[.val (.ref ao), .val (.int nd), .val (.ref aq), .val (.int (en + (-1 : Int32))), .val (.int cu)] [(.int (tl.getD kk.toNatClampNeg 0))])
          refine Go.step (fun _ k => XS.istore X67.here hx rfl (hb hby d4_50) rfl (l' := #[.val (.ref ao), .val (.int nd), .val (.ref aq), .val (.int (en + (-1 : Int32))), .val (.int (tl.getD kk.toNatClampNeg 0))]) rfl k) ?_
          show Go _ _ _ _ _ _ _ T67 (mkF m 52 #[.val (.ref ao), .val (.int nd), .val (.ref aq), .val (.int (en + (-1 : Int32))), .val (.int (tl.getD kk.toNatClampNeg 0))] [])
          refine Go.step (fun _ k => XS.goto X67.here hx rfl (pc0 := 52) (pc' := 6) rfl (hb hby d4_52) (by decide) (by decide) k) ?_
          show Go _ _ _ _ _ _ _ T67 (mkF m 6 #[.val (.ref ao), .val (.int nd), .val (.ref aq), .val (.int (en + (-1 : Int32))), .val (.int (tl.getD kk.toNatClampNeg 0))] [])
          exact ih T67 _ (tl.getD kk.toNatClampNeg 0) (en + (-1 : Int32)) X67 e67 Nl hc4 (own_ar15 en nq he hpos) (by rw [hI, own_dec hpos, own_tki hin1]; exact ⟨fun q => q.2, fun q => ⟨hc33_65, q⟩⟩)
        · refine Go.step (fun _ k => XS.icmpNo X63.here hx rfl (hb hby d4_33) rfl (feq hc33_65).1 k) ?_
          show Go _ _ _ _ _ _ _ T63 (mkF m 36 #[.val (.ref ao), .val (.int nd), .val (.ref aq), .val (.int (en + (-1 : Int32))), .val (.int cu)] [])
          refine Go.step (fun _ k => XS.iconst X63.here hx rfl (hb hby d4_36) k) ?_
          show Go _ _ _ _ _ _ _ T63 (mkF m 37 #[.val (.ref ao), .val (.int nd), .val (.ref aq), .val (.int (en + (-1 : Int32))), .val (.int cu)] [(.int (0 : Int32))])
          exact Go.retN X63 hx (t := .boolean) hret hlk (by simp) (hb hby d4_37) e63 (by decide) (by decide) ⟨(congrArg (fun z => some (Value.int z)) (if_neg (fun q => absurd (hI.mp q) (by rw [own_dec hpos, own_tki hin1]; exact fun q2 => hc33_65 q2.1))).symm), Nl, rfl⟩
  exact LOOP ls0 s₁ _ nd nq X0 e0 N0 hch (own_ar16 nq hnq) (by rw [← hlq, List.take_length])
theorem own_and1 (x : Int32) : x &&& 1 = 0 ∨ x &&& 1 = 1 := by
  have := c_mask x 1 1 (by decide) (by decide)
  have : (0 : Int32).toInt = 0 := rfl; have : (1 : Int32).toInt = 1 := rfl
  simp only [← Int32.toInt_inj]; omega
theorem own_k5 (x : Int32) (h : 0 ≤ x.toInt ∧ x.toInt < 5) : x = 0 ∨ x = 1 ∨ x = 2 ∨ x = 3 ∨ x = 4 := by
  have : (0 : Int32).toInt = 0 := rfl; have : (1 : Int32).toInt = 1 := rfl; have : (2 : Int32).toInt = 2 := rfl; have : (3 : Int32).toInt = 3 := rfl; have : (4 : Int32).toInt = 4 := rfl
  simp only [← Int32.toInt_inj]; omega
theorem own_fin {la lb ls : List Int32} (h : la = ls.reverse) : (if lb = ls.reverse then (1 : Int32) else 0) = (if la = lb then 1 else 0) := by
  rw [← h]; by_cases q : la = lb
  · rw [if_pos q, if_pos q.symm]
  · rw [if_neg q, if_neg (fun z => q z.symm)]
theorem pd__II_I : parseMethodDescriptor "(II)I" = some ⟨[.int, .int], some .int⟩ := by decide +kernel
theorem pd__I_D_I_I_I_V : parseMethodDescriptor "(I[D[I[I[I)V" = some ⟨[.int, (.array .double), (.array .int), (.array .int), (.array .int)], none⟩ := by decide +kernel
theorem pd__I_I_Z : parseMethodDescriptor "(I[I)Z" = some ⟨[.int, (.array .int)], some .boolean⟩ := by decide +kernel
theorem pd___I_I_Z : parseMethodDescriptor "([I[I)Z" = some ⟨[(.array .int), (.array .int)], some .boolean⟩ := by decide +kernel
theorem ef_rm0 (m : MethodId) (ish : Int32) (ind : Int32) (iln : Int32) (ie0 : Int32) (ie1 : Int32) (ie2 : Int32) : entryFrame m #[(.int ish), (.int ind), (.int iln), (.int ie0), (.int ie1), (.int ie2)] maxLocals = mkF m 0 #[.val (.int ish), .val (.int ind), .val (.int iln), .val (.int ie0), .val (.int ie1), .val (.int ie2), .unset, .unset, .unset, .unset, .unset, .unset, .unset, .unset, .unset, .unset, .unset, .unset, .unset, .unset, .unset, .unset, .unset, .unset, .unset, .unset] [] := by first | (simp [entryFrame, mkF, argsToLocals, Value.category, maxLocals]; done) | rfl
theorem own_ar17 (ish : Int32) : 1 ≤ ((1 : Int32) + (ish &&& (1 : Int32))).toInt ∧ ((1 : Int32) + (ish &&& (1 : Int32))).toInt ≤ 2 := by have : (1 : Int32).toInt = 1 := rfl; have := rng32 ish; have := rng32 (ish &&& (1 : Int32)); have := c_mask ish (1 : Int32) 1 (by decide) (by decide); have := rng32 ((1 : Int32) + (ish &&& (1 : Int32))); have := c_iadd (1 : Int32) (ish &&& (1 : Int32)); omega
theorem own_ar18 (ish : Int32) : 1 ≤ ((1 : Int32) + ((((ish.toUInt32 >>> ((1 : Int32) &&& 31).toUInt32).toInt32) &&& (3 : Int32)) % (3 : Int32))).toInt ∧ ((1 : Int32) + ((((ish.toUInt32 >>> ((1 : Int32) &&& 31).toUInt32).toInt32) &&& (3 : Int32)) % (3 : Int32))).toInt ≤ 3 := by have : (1 : Int32).toInt = 1 := rfl; have := rng32 ish; have := rng32 ((ish.toUInt32 >>> ((1 : Int32) &&& 31).toUInt32).toInt32); have := c_iushr ish (1 : Int32) 1 (by decide) (by decide); have : (3 : Int32).toInt = 3 := rfl; have := rng32 (((ish.toUInt32 >>> ((1 : Int32) &&& 31).toUInt32).toInt32) &&& (3 : Int32)); have := c_mask ((ish.toUInt32 >>> ((1 : Int32) &&& 31).toUInt32).toInt32) (3 : Int32) 2 (by decide) (by decide); have := rng32 ((((ish.toUInt32 >>> ((1 : Int32) &&& 31).toUInt32).toInt32) &&& (3 : Int32)) % (3 : Int32)); have := c_irem (((ish.toUInt32 >>> ((1 : Int32) &&& 31).toUInt32).toInt32) &&& (3 : Int32)) (3 : Int32) 3 rfl; have := rng32 ((1 : Int32) + ((((ish.toUInt32 >>> ((1 : Int32) &&& 31).toUInt32).toInt32) &&& (3 : Int32)) % (3 : Int32))); have := c_iadd (1 : Int32) ((((ish.toUInt32 >>> ((1 : Int32) &&& 31).toUInt32).toInt32) &&& (3 : Int32)) % (3 : Int32)); omega
theorem own_ar19 (ind : Int32) : 1 ≤ ((1 : Int32) + ((ind &&& (2147483647 : Int32)) % (4 : Int32))).toInt ∧ ((1 : Int32) + ((ind &&& (2147483647 : Int32)) % (4 : Int32))).toInt ≤ 4 := by have : (1 : Int32).toInt = 1 := rfl; have := rng32 ind; have : (2147483647 : Int32).toInt = 2147483647 := rfl; have := rng32 (ind &&& (2147483647 : Int32)); have := c_mask ind (2147483647 : Int32) 31 (by decide) (by decide); have : (4 : Int32).toInt = 4 := rfl; have := rng32 ((ind &&& (2147483647 : Int32)) % (4 : Int32)); have := c_irem (ind &&& (2147483647 : Int32)) (4 : Int32) 4 rfl; have := rng32 ((1 : Int32) + ((ind &&& (2147483647 : Int32)) % (4 : Int32))); have := c_iadd (1 : Int32) ((ind &&& (2147483647 : Int32)) % (4 : Int32)); omega
theorem own_ar20 (iln : Int32) : 0 ≤ ((iln &&& (2147483647 : Int32)) % (5 : Int32)).toInt ∧ ((iln &&& (2147483647 : Int32)) % (5 : Int32)).toInt ≤ 4 := by have := rng32 iln; have : (2147483647 : Int32).toInt = 2147483647 := rfl; have := rng32 (iln &&& (2147483647 : Int32)); have := c_mask iln (2147483647 : Int32) 31 (by decide) (by decide); have : (5 : Int32).toInt = 5 := rfl; have := rng32 ((iln &&& (2147483647 : Int32)) % (5 : Int32)); have := c_irem (iln &&& (2147483647 : Int32)) (5 : Int32) 5 rfl; omega
theorem own_ar21 (vp3 : Int32) (hh0 : 1 ≤ vp3.toInt ∧ vp3.toInt ≤ 2) (hh1 : ¬ (vp3 = (1 : Int32))) : vp3 = 2 := by have := rng32 vp3; have : (1 : Int32).toInt = 1 := rfl; have : (2 : Int32).toInt = 2 := rfl; simp only [Int32.lt_iff_toInt_lt, Int32.le_iff_toInt_le, ← Int32.toInt_inj, Int64.lt_iff_toInt_lt, Int64.le_iff_toInt_le, ← Int64.toInt_inj] at hh0 hh1 ⊢; omega
theorem own_ar22 (vn : Int32) (hh0 : 1 ≤ vn.toInt ∧ vn.toInt ≤ 4) (hh1 : ¬ (vn = (1 : Int32))) (hh2 : ¬ (vn = (2 : Int32))) (hh3 : ¬ (vn = (3 : Int32))) : vn = 4 := by have := rng32 vn; have : (1 : Int32).toInt = 1 := rfl; have : (2 : Int32).toInt = 2 := rfl; have : (3 : Int32).toInt = 3 := rfl; have : (4 : Int32).toInt = 4 := rfl; simp only [Int32.lt_iff_toInt_lt, Int32.le_iff_toInt_le, ← Int32.toInt_inj, Int64.lt_iff_toInt_lt, Int64.le_iff_toInt_le, ← Int64.toInt_inj] at hh0 hh1 hh2 hh3 ⊢; omega
theorem own_ar23 (vp4 : Int32) (hh0 : 1 ≤ vp4.toInt ∧ vp4.toInt ≤ 3) (hh1 : ¬ (vp4 = (1 : Int32))) (hh2 : ¬ (vp4 = (2 : Int32))) : vp4 = 3 := by have := rng32 vp4; have : (1 : Int32).toInt = 1 := rfl; have : (2 : Int32).toInt = 2 := rfl; have : (3 : Int32).toInt = 3 := rfl; simp only [Int32.lt_iff_toInt_lt, Int32.le_iff_toInt_le, ← Int32.toInt_inj, Int64.lt_iff_toInt_lt, Int64.le_iff_toInt_le, ← Int64.toInt_inj] at hh0 hh1 hh2 ⊢; omega
theorem own_ar24 (vp3 : Int32) (hh0 : 1 ≤ vp3.toInt ∧ vp3.toInt ≤ 2) (hh1 : ¬ (vp3 = (1 : Int32))) : vp3 = 2 := by have := rng32 vp3; have : (1 : Int32).toInt = 1 := rfl; have : (2 : Int32).toInt = 2 := rfl; simp only [Int32.lt_iff_toInt_lt, Int32.le_iff_toInt_le, ← Int32.toInt_inj, Int64.lt_iff_toInt_lt, Int64.le_iff_toInt_le, ← Int64.toInt_inj] at hh0 hh1 ⊢; omega
theorem own_ar25 (vp3 : Int32) (hh0 : 1 ≤ vp3.toInt ∧ vp3.toInt ≤ 2) (hh1 : ¬ (vp3 = (1 : Int32))) : vp3 = 2 := by have := rng32 vp3; have : (1 : Int32).toInt = 1 := rfl; have : (2 : Int32).toInt = 2 := rfl; simp only [Int32.lt_iff_toInt_lt, Int32.le_iff_toInt_le, ← Int32.toInt_inj, Int64.lt_iff_toInt_lt, Int64.le_iff_toInt_le, ← Int64.toInt_inj] at hh0 hh1 ⊢; omega
theorem own_ar26 (vn : Int32) (hh0 : 1 ≤ vn.toInt ∧ vn.toInt ≤ 4) (hh1 : ¬ (vn = (1 : Int32))) (hh2 : ¬ (vn = (2 : Int32))) (hh3 : ¬ (vn = (3 : Int32))) : vn = 4 := by have := rng32 vn; have : (1 : Int32).toInt = 1 := rfl; have : (2 : Int32).toInt = 2 := rfl; have : (3 : Int32).toInt = 3 := rfl; have : (4 : Int32).toInt = 4 := rfl; simp only [Int32.lt_iff_toInt_lt, Int32.le_iff_toInt_le, ← Int32.toInt_inj, Int64.lt_iff_toInt_lt, Int64.le_iff_toInt_le, ← Int64.toInt_inj] at hh0 hh1 hh2 hh3 ⊢; omega
theorem own_ar27 (vp4 : Int32) (hh0 : 1 ≤ vp4.toInt ∧ vp4.toInt ≤ 3) (hh1 : ¬ (vp4 = (1 : Int32))) (hh2 : ¬ (vp4 = (2 : Int32))) : vp4 = 3 := by have := rng32 vp4; have : (1 : Int32).toInt = 1 := rfl; have : (2 : Int32).toInt = 2 := rfl; have : (3 : Int32).toInt = 3 := rfl; simp only [Int32.lt_iff_toInt_lt, Int32.le_iff_toInt_le, ← Int32.toInt_inj, Int64.lt_iff_toInt_lt, Int64.le_iff_toInt_le, ← Int64.toInt_inj] at hh0 hh1 hh2 ⊢; omega
theorem own_ar28 (vp3 : Int32) (hh0 : 1 ≤ vp3.toInt ∧ vp3.toInt ≤ 2) (hh1 : ¬ (vp3 = (1 : Int32))) : vp3 = 2 := by have := rng32 vp3; have : (1 : Int32).toInt = 1 := rfl; have : (2 : Int32).toInt = 2 := rfl; simp only [Int32.lt_iff_toInt_lt, Int32.le_iff_toInt_le, ← Int32.toInt_inj, Int64.lt_iff_toInt_lt, Int64.le_iff_toInt_le, ← Int64.toInt_inj] at hh0 hh1 ⊢; omega
def Q_rm0 (Z : State) (ish : Int32) (ind : Int32) (iln : Int32) (ie0 : Int32) (ie1 : Int32) (ie2 : Int32) (h0 : Heap) (n0 : Nat) (v : Option Value) (h : Heap) (L : List Loc) : Prop := (v = some (.int (1 : Int32))) ∧ (Fr n0 L) ∧ (True)
set_option maxRecDepth 65536 in
set_option maxHeartbeats 40000000 in
theorem rm0 (l : Launch) (Z : State) (a0 : Array Value) (hw : ∀ d ∈ tables_1, d.before a0 Z = true) (ws : List Jvm.Cond) (ish : Int32) (ind : Int32) (iln : Int32) (ie0 : Int32) (ie1 : Int32) (ie2 : Int32) (h0 : Heap) (n0 : Nat) (Z0 : n0 ≤ h0.size) :
    MetFree l x (head1 (Jvm.Cond.code x code maxLocals ret :: ws) room_1) (fun aA U => aA = #[(.int ish), (.int ind), (.int iln), (.int ie0), (.int ie1), (.int ie2)] ∧ Z.Warmed39 U.vm ∧ U.heap = h0) (fun _ _ _ _ _ => True) (fun _ U o U' => ∃ v L, o = .returned v ∧ Q_rm0 Z ish ind iln ie0 ie1 ie2 h0 n0 v U'.heap L ∧ FrameEnd U o U' L room_1.cells room_1.slots) := by
  refine MetFree.of_bodySF (plainFor_of_name pn_com_example_wayfront_wayfront_paths_ShortestPathTreeIsPathToPinLaw) hisR ?_
  intro p e s m args below meth c s₁ Bd hml0 hP hK
  obtain ⟨rfl, hZ, hh⟩ := hP
  have hx := Bd.exec
  have hby := Bd.bytes
  have hml : c.maxLocals = 26 := hml0
  have hown : s.vm.findClass "com/example/wayfront/wayfront/paths/ShortestPathTreeIsPathToPinLaw" = some m.cls := findClass_of_methodNamed Bd.named
  have hnm := (name_of_methodNamed Bd.named Bd.method).1
  have hret := Bd.returns
  have hlk : meth.locks = false := BodyLoose.notSynchronized Bd
  have X0 : Stand p l e room_1 s m #[(.int ish), (.int ind), (.int iln), (.int ie0), (.int ie1), (.int ie2)] below meth c s₁ [] 0 0 := Stand.of_body Bd
  have e0 : s₁.heap = h0 := by rw [← hh, Bd.state]; rfl
  have N0 := Fr.nil n0
  suffices hgo : Go p e below s room_1.cells room_1.slots (Q_rm0 Z ish ind iln ie0 ie1 ie2 h0 n0) s₁ (mkF m 0 #[.val (.int ish), .val (.int ind), .val (.int iln), .val (.int ie0), .val (.int ie1), .val (.int ie2), .unset, .unset, .unset, .unset, .unset, .unset, .unset, .unset, .unset, .unset, .unset, .unset, .unset, .unset, .unset, .unset, .unset, .unset, .unset, .unset] []) from hgo.enter (ef_rm0 m ish ind iln ie0 ie1 ie2)
  refine Go.step (fun _ k => XS.iconst X0.here hx rfl (hb hby at_0) k) ?_
  refine Go.step (fun _ k => XS.iloadN X0.here hx rfl (hb hby at_1) rfl k) ?_
  refine Go.step (fun _ k => XS.iconst X0.here hx rfl (hb hby at_2) k) ?_
  refine Go.step (fun _ k => XS.iand X0.here hx rfl (hb hby at_3) rfl k) ?_
  refine Go.step (fun _ k => XS.iadd X0.here hx rfl (hb hby at_4) rfl k) ?_
  refine Go.step (fun _ k => XS.istore X0.here hx rfl (hb hby at_5) rfl (l' := #[.val (.int ish), .val (.int ind), .val (.int iln), .val (.int ie0), .val (.int ie1), .val (.int ie2), .val (.int ((1 : Int32) + (ish &&& (1 : Int32)))), .unset, .unset, .unset, .unset, .unset, .unset, .unset, .unset, .unset, .unset, .unset, .unset, .unset, .unset, .unset, .unset, .unset, .unset, .unset]) rfl k) ?_
  show Go _ _ _ _ _ _ _ s₁ (mkF m 7 #[.val (.int ish), .val (.int ind), .val (.int iln), .val (.int ie0), .val (.int ie1), .val (.int ie2), .val (.int ((1 : Int32) + (ish &&& (1 : Int32)))), .unset, .unset, .unset, .unset, .unset, .unset, .unset, .unset, .unset, .unset, .unset, .unset, .unset, .unset, .unset, .unset, .unset, .unset, .unset] [])
  have b_vp3 : 1 ≤ ((1 : Int32) + (ish &&& (1 : Int32))).toInt ∧ ((1 : Int32) + (ish &&& (1 : Int32))).toInt ≤ 2 := (own_ar17 ish)
  generalize ((1 : Int32) + (ish &&& (1 : Int32))) = vp3 at b_vp3 ⊢
  show Go _ _ _ _ _ _ _ s₁ (mkF m 7 #[.val (.int ish), .val (.int ind), .val (.int iln), .val (.int ie0), .val (.int ie1), .val (.int ie2), .val (.int vp3), .unset, .unset, .unset, .unset, .unset, .unset, .unset, .unset, .unset, .unset, .unset, .unset, .unset, .unset, .unset, .unset, .unset, .unset, .unset] [])
  refine Go.step (fun _ k => XS.iconst X0.here hx rfl (hb hby at_7) k) ?_
  refine Go.step (fun _ k => XS.iloadN X0.here hx rfl (hb hby at_8) rfl k) ?_
  refine Go.step (fun _ k => XS.iconst X0.here hx rfl (hb hby at_9) k) ?_
  refine Go.step (fun _ k => XS.iushr X0.here hx rfl (hb hby at_10) rfl k) ?_
  show Go _ _ _ _ _ _ _ s₁ (mkF m 11 #[.val (.int ish), .val (.int ind), .val (.int iln), .val (.int ie0), .val (.int ie1), .val (.int ie2), .val (.int vp3), .unset, .unset, .unset, .unset, .unset, .unset, .unset, .unset, .unset, .unset, .unset, .unset, .unset, .unset, .unset, .unset, .unset, .unset, .unset] [(.int ((ish.toUInt32 >>> ((1 : Int32) &&& 31).toUInt32).toInt32)), (.int (1 : Int32))])
  refine Go.step (fun _ k => XS.iconst X0.here hx rfl (hb hby at_11) k) ?_
  refine Go.step (fun _ k => XS.iand X0.here hx rfl (hb hby at_12) rfl k) ?_
  refine Go.step (fun _ k => XS.iconst X0.here hx rfl (hb hby at_13) k) ?_
  refine Go.step (fun _ k => iremM X0 hx rfl (hb hby at_14) rfl (by decide) k) ?_
  refine Go.step (fun _ k => XS.iadd X0.here hx rfl (hb hby at_15) rfl k) ?_
  refine Go.step (fun _ k => XS.istore X0.here hx rfl (hb hby at_16) rfl (l' := #[.val (.int ish), .val (.int ind), .val (.int iln), .val (.int ie0), .val (.int ie1), .val (.int ie2), .val (.int vp3), .val (.int ((1 : Int32) + ((((ish.toUInt32 >>> ((1 : Int32) &&& 31).toUInt32).toInt32) &&& (3 : Int32)) % (3 : Int32)))), .unset, .unset, .unset, .unset, .unset, .unset, .unset, .unset, .unset, .unset, .unset, .unset, .unset, .unset, .unset, .unset, .unset, .unset]) rfl k) ?_
  show Go _ _ _ _ _ _ _ s₁ (mkF m 18 #[.val (.int ish), .val (.int ind), .val (.int iln), .val (.int ie0), .val (.int ie1), .val (.int ie2), .val (.int vp3), .val (.int ((1 : Int32) + ((((ish.toUInt32 >>> ((1 : Int32) &&& 31).toUInt32).toInt32) &&& (3 : Int32)) % (3 : Int32)))), .unset, .unset, .unset, .unset, .unset, .unset, .unset, .unset, .unset, .unset, .unset, .unset, .unset, .unset, .unset, .unset, .unset, .unset] [])
  have b_vp4 : 1 ≤ ((1 : Int32) + ((((ish.toUInt32 >>> ((1 : Int32) &&& 31).toUInt32).toInt32) &&& (3 : Int32)) % (3 : Int32))).toInt ∧ ((1 : Int32) + ((((ish.toUInt32 >>> ((1 : Int32) &&& 31).toUInt32).toInt32) &&& (3 : Int32)) % (3 : Int32))).toInt ≤ 3 := (own_ar18 ish)
  generalize ((1 : Int32) + ((((ish.toUInt32 >>> ((1 : Int32) &&& 31).toUInt32).toInt32) &&& (3 : Int32)) % (3 : Int32))) = vp4 at b_vp4 ⊢
  show Go _ _ _ _ _ _ _ s₁ (mkF m 18 #[.val (.int ish), .val (.int ind), .val (.int iln), .val (.int ie0), .val (.int ie1), .val (.int ie2), .val (.int vp3), .val (.int vp4), .unset, .unset, .unset, .unset, .unset, .unset, .unset, .unset, .unset, .unset, .unset, .unset, .unset, .unset, .unset, .unset, .unset, .unset] [])
  refine Go.step (fun _ k => XS.iloadN X0.here hx rfl (hb hby at_18) rfl k) ?_
  refine Go.step (fun _ k => XS.iconst X0.here hx rfl (hb hby at_19) k) ?_
  refine Go.step (fun _ k => XS.iushr X0.here hx rfl (hb hby at_20) rfl k) ?_
  show Go _ _ _ _ _ _ _ s₁ (mkF m 21 #[.val (.int ish), .val (.int ind), .val (.int iln), .val (.int ie0), .val (.int ie1), .val (.int ie2), .val (.int vp3), .val (.int vp4), .unset, .unset, .unset, .unset, .unset, .unset, .unset, .unset, .unset, .unset, .unset, .unset, .unset, .unset, .unset, .unset, .unset, .unset] [(.int ((ish.toUInt32 >>> ((3 : Int32) &&& 31).toUInt32).toInt32))])
  refine Go.step (fun _ k => XS.iconst X0.here hx rfl (hb hby at_21) k) ?_
  refine Go.step (fun _ k => XS.iand X0.here hx rfl (hb hby at_22) rfl k) ?_
  refine Go.step (fun _ k => XS.istore X0.here hx rfl (hb hby at_23) rfl (l' := #[.val (.int ish), .val (.int ind), .val (.int iln), .val (.int ie0), .val (.int ie1), .val (.int ie2), .val (.int vp3), .val (.int vp4), .val (.int (((ish.toUInt32 >>> ((3 : Int32) &&& 31).toUInt32).toInt32) &&& (1 : Int32))), .unset, .unset, .unset, .unset, .unset, .unset, .unset, .unset, .unset, .unset, .unset, .unset, .unset, .unset, .unset, .unset, .unset]) rfl k) ?_
  show Go _ _ _ _ _ _ _ s₁ (mkF m 25 #[.val (.int ish), .val (.int ind), .val (.int iln), .val (.int ie0), .val (.int ie1), .val (.int ie2), .val (.int vp3), .val (.int vp4), .val (.int (((ish.toUInt32 >>> ((3 : Int32) &&& 31).toUInt32).toInt32) &&& (1 : Int32))), .unset, .unset, .unset, .unset, .unset, .unset, .unset, .unset, .unset, .unset, .unset, .unset, .unset, .unset, .unset, .unset, .unset] [])
  refine Go.step (fun _ k => XS.iconst X0.here hx rfl (hb hby at_25) k) ?_
  refine Go.step (fun _ k => XS.iloadN X0.here hx rfl (hb hby at_26) rfl k) ?_
  refine Go.step (X0.ldcInt hx hown (mvT hZ (hw _ (List.mem_of_getElem? (i := 0) rfl))) (g := (mkF m 27 #[.val (.int ish), .val (.int ind), .val (.int iln), .val (.int ie0), .val (.int ie1), .val (.int ie2), .val (.int vp3), .val (.int vp4), .val (.int (((ish.toUInt32 >>> ((3 : Int32) &&& 31).toUInt32).toInt32) &&& (1 : Int32))), .unset, .unset, .unset, .unset, .unset, .unset, .unset, .unset, .unset, .unset, .unset, .unset, .unset, .unset, .unset, .unset, .unset] [(.int ind), (.int (1 : Int32))])) rfl (hb hby at_27)) ?_
  refine Go.step (fun _ k => XS.iand X0.here hx rfl (hb hby at_29) rfl k) ?_
  refine Go.step (fun _ k => XS.iconst X0.here hx rfl (hb hby at_30) k) ?_
  refine Go.step (fun _ k => iremM X0 hx rfl (hb hby at_31) rfl (by decide) k) ?_
  refine Go.step (fun _ k => XS.iadd X0.here hx rfl (hb hby at_32) rfl k) ?_
  refine Go.step (fun _ k => XS.istore X0.here hx rfl (hb hby at_33) rfl (l' := #[.val (.int ish), .val (.int ind), .val (.int iln), .val (.int ie0), .val (.int ie1), .val (.int ie2), .val (.int vp3), .val (.int vp4), .val (.int (((ish.toUInt32 >>> ((3 : Int32) &&& 31).toUInt32).toInt32) &&& (1 : Int32))), .val (.int ((1 : Int32) + ((ind &&& (2147483647 : Int32)) % (4 : Int32)))), .unset, .unset, .unset, .unset, .unset, .unset, .unset, .unset, .unset, .unset, .unset, .unset, .unset, .unset, .unset, .unset]) rfl k) ?_
  show Go _ _ _ _ _ _ _ s₁ (mkF m 35 #[.val (.int ish), .val (.int ind), .val (.int iln), .val (.int ie0), .val (.int ie1), .val (.int ie2), .val (.int vp3), .val (.int vp4), .val (.int (((ish.toUInt32 >>> ((3 : Int32) &&& 31).toUInt32).toInt32) &&& (1 : Int32))), .val (.int ((1 : Int32) + ((ind &&& (2147483647 : Int32)) % (4 : Int32)))), .unset, .unset, .unset, .unset, .unset, .unset, .unset, .unset, .unset, .unset, .unset, .unset, .unset, .unset, .unset, .unset] [])
  have b_vn : 1 ≤ ((1 : Int32) + ((ind &&& (2147483647 : Int32)) % (4 : Int32))).toInt ∧ ((1 : Int32) + ((ind &&& (2147483647 : Int32)) % (4 : Int32))).toInt ≤ 4 := (own_ar19 ind)
  generalize ((1 : Int32) + ((ind &&& (2147483647 : Int32)) % (4 : Int32))) = vn at b_vn ⊢
  show Go _ _ _ _ _ _ _ s₁ (mkF m 35 #[.val (.int ish), .val (.int ind), .val (.int iln), .val (.int ie0), .val (.int ie1), .val (.int ie2), .val (.int vp3), .val (.int vp4), .val (.int (((ish.toUInt32 >>> ((3 : Int32) &&& 31).toUInt32).toInt32) &&& (1 : Int32))), .val (.int vn), .unset, .unset, .unset, .unset, .unset, .unset, .unset, .unset, .unset, .unset, .unset, .unset, .unset, .unset, .unset, .unset] [])
  rcases own_and1 ((ish.toUInt32 >>> ((3 : Int32) &&& 31).toUInt32).toInt32) with qr | qr <;> rw [qr]
  · show Go _ _ _ _ _ _ _ s₁ (mkF m 35 #[.val (.int ish), .val (.int ind), .val (.int iln), .val (.int ie0), .val (.int ie1), .val (.int ie2), .val (.int vp3), .val (.int vp4), .val (.int (0 : Int32)), .val (.int vn), .unset, .unset, .unset, .unset, .unset, .unset, .unset, .unset, .unset, .unset, .unset, .unset, .unset, .unset, .unset, .unset] [])
    refine Go.step (fun _ k => XS.iconst X0.here hx rfl (hb hby at_35) k) ?_
    refine Go.step (fun _ k => XS.iload X0.here hx rfl (hb hby at_36) rfl k) ?_
    obtain ⟨_, _, ⟨T70, L70, k70, n70⟩, -, X70, ⟨Lc70, hQ70, l70, y70, z70⟩, st70⟩ := Jvm.LawKit.callS X0 hx (y := (⟨"com/example/wayfront/wayfront/paths/ShortestPathTreeIsPathToPinLaw", "link", "(II)I"⟩ : MethodName)) hown (mvT hZ (hw _ (List.mem_of_getElem? (i := 1) rfl))) (mvT hZ (hw _ (List.mem_of_getElem? (i := 2) rfl))) (mvT hZ (hw _ (List.mem_of_getElem? (i := 3) rfl))) (mvT hZ (hw _ (List.mem_of_getElem? (i := 4) rfl))) (by decide) (backOf (W := 0) (rmLk l Z a0 hw [] (2 : Int32) (0 : Int32) h0 n0 Z0 ) hZ (hw _ (List.mem_of_getElem? (i := 4) rfl)) (hw _ (List.mem_of_getElem? (i := 3) rfl)) (by decide) (by decide)) (g := (mkF m 38 #[.val (.int ish), .val (.int ind), .val (.int iln), .val (.int ie0), .val (.int ie1), .val (.int ie2), .val (.int vp3), .val (.int vp4), .val (.int (0 : Int32)), .val (.int vn), .unset, .unset, .unset, .unset, .unset, .unset, .unset, .unset, .unset, .unset, .unset, .unset, .unset, .unset, .unset, .unset] [(.int (0 : Int32)), (.int (2 : Int32))])) rfl (by rw [hml]; rfl) (argsL := [(.int (2 : Int32)), (.int (0 : Int32))]) (rest := []) (lenOf pd__II_I rfl) rfl (by show 2 * 0 + _ ≤ _; exact Nat.le_of_eq rfl) (hb hby at_38) (fun _ _ => ⟨rfl, e0, (by decide : 0 + 0 ≤ _), (by decide : 0 + 0 ≤ _)⟩)
    dsimp only [Pt.U, Pt.locs, Pt.cells, Pt.slots] at X70 l70 y70 z70 st70 hQ70
    subst l70 y70 z70
    obtain ⟨h70, e70⟩ : ∃ h, T70.heap = h := ⟨_, rfl⟩
    rw [e70] at hQ70
    obtain ⟨rfl, Nq70, hs70⟩ := hQ70
    have N70 := Fr.app N0 Nq70
    rw [hs70] at e70
    refine Go.step st70 ?_
    rw [show (own_lk (2 : Int32) (0 : Int32)) = (0 : Int32) from by decide]
    show Go _ _ _ _ _ _ _ T70 (mkF m 41 #[.val (.int ish), .val (.int ind), .val (.int iln), .val (.int ie0), .val (.int ie1), .val (.int ie2), .val (.int vp3), .val (.int vp4), .val (.int (0 : Int32)), .val (.int vn), .unset, .unset, .unset, .unset, .unset, .unset, .unset, .unset, .unset, .unset, .unset, .unset, .unset, .unset, .unset, .unset] [(.int (0 : Int32))])
    refine Go.step (fun _ k => XS.istore X70.here hx rfl (hb hby at_41) rfl (l' := #[.val (.int ish), .val (.int ind), .val (.int iln), .val (.int ie0), .val (.int ie1), .val (.int ie2), .val (.int vp3), .val (.int vp4), .val (.int (0 : Int32)), .val (.int vn), .val (.int (0 : Int32)), .unset, .unset, .unset, .unset, .unset, .unset, .unset, .unset, .unset, .unset, .unset, .unset, .unset, .unset, .unset]) rfl k) ?_
    show Go _ _ _ _ _ _ _ T70 (mkF m 43 #[.val (.int ish), .val (.int ind), .val (.int iln), .val (.int ie0), .val (.int ie1), .val (.int ie2), .val (.int vp3), .val (.int vp4), .val (.int (0 : Int32)), .val (.int vn), .val (.int (0 : Int32)), .unset, .unset, .unset, .unset, .unset, .unset, .unset, .unset, .unset, .unset, .unset, .unset, .unset, .unset, .unset] [])
    refine Go.step (fun _ k => XS.iconst X70.here hx rfl (hb hby at_43) k) ?_
    refine Go.step (fun _ k => XS.iload X70.here hx rfl (hb hby at_44) rfl k) ?_
    obtain ⟨_, _, ⟨T71, L71, k71, n71⟩, -, X71, ⟨Lc71, hQ71, l71, y71, z71⟩, st71⟩ := Jvm.LawKit.callS X70 hx (y := (⟨"com/example/wayfront/wayfront/paths/ShortestPathTreeIsPathToPinLaw", "link", "(II)I"⟩ : MethodName)) hown (mvT hZ (hw _ (List.mem_of_getElem? (i := 1) rfl))) (mvT hZ (hw _ (List.mem_of_getElem? (i := 2) rfl))) (mvT hZ (hw _ (List.mem_of_getElem? (i := 3) rfl))) (mvT hZ (hw _ (List.mem_of_getElem? (i := 4) rfl))) (by decide) (backOf (W := 0) (rmLk l Z a0 hw [] (3 : Int32) (0 : Int32) h0 n0 Z0 ) hZ (hw _ (List.mem_of_getElem? (i := 4) rfl)) (hw _ (List.mem_of_getElem? (i := 3) rfl)) (by decide) (by decide)) (g := (mkF m 46 #[.val (.int ish), .val (.int ind), .val (.int iln), .val (.int ie0), .val (.int ie1), .val (.int ie2), .val (.int vp3), .val (.int vp4), .val (.int (0 : Int32)), .val (.int vn), .val (.int (0 : Int32)), .unset, .unset, .unset, .unset, .unset, .unset, .unset, .unset, .unset, .unset, .unset, .unset, .unset, .unset, .unset] [(.int (0 : Int32)), (.int (3 : Int32))])) rfl (by rw [hml]; rfl) (argsL := [(.int (3 : Int32)), (.int (0 : Int32))]) (rest := []) (lenOf pd__II_I rfl) rfl (by show 2 * 0 + _ ≤ _; exact Nat.le_of_eq rfl) (hb hby at_46) (fun _ _ => ⟨rfl, e70, (by decide : 0 + 0 ≤ _), (by decide : 0 + 0 ≤ _)⟩)
    dsimp only [Pt.U, Pt.locs, Pt.cells, Pt.slots] at X71 l71 y71 z71 st71 hQ71
    subst l71 y71 z71
    obtain ⟨h71, e71⟩ : ∃ h, T71.heap = h := ⟨_, rfl⟩
    rw [e71] at hQ71
    obtain ⟨rfl, Nq71, hs71⟩ := hQ71
    have N71 := Fr.app N70 Nq71
    rw [hs71] at e71
    refine Go.step st71 ?_
    rw [show (own_lk (3 : Int32) (0 : Int32)) = (1 : Int32) from by decide]
    show Go _ _ _ _ _ _ _ T71 (mkF m 49 #[.val (.int ish), .val (.int ind), .val (.int iln), .val (.int ie0), .val (.int ie1), .val (.int ie2), .val (.int vp3), .val (.int vp4), .val (.int (0 : Int32)), .val (.int vn), .val (.int (0 : Int32)), .unset, .unset, .unset, .unset, .unset, .unset, .unset, .unset, .unset, .unset, .unset, .unset, .unset, .unset, .unset] [(.int (1 : Int32))])
    refine Go.step (fun _ k => XS.istore X71.here hx rfl (hb hby at_49) rfl (l' := #[.val (.int ish), .val (.int ind), .val (.int iln), .val (.int ie0), .val (.int ie1), .val (.int ie2), .val (.int vp3), .val (.int vp4), .val (.int (0 : Int32)), .val (.int vn), .val (.int (0 : Int32)), .val (.int (1 : Int32)), .unset, .unset, .unset, .unset, .unset, .unset, .unset, .unset, .unset, .unset, .unset, .unset, .unset, .unset]) rfl k) ?_
    show Go _ _ _ _ _ _ _ T71 (mkF m 51 #[.val (.int ish), .val (.int ind), .val (.int iln), .val (.int ie0), .val (.int ie1), .val (.int ie2), .val (.int vp3), .val (.int vp4), .val (.int (0 : Int32)), .val (.int vn), .val (.int (0 : Int32)), .val (.int (1 : Int32)), .unset, .unset, .unset, .unset, .unset, .unset, .unset, .unset, .unset, .unset, .unset, .unset, .unset, .unset] [])
    refine Go.step (fun _ k => XS.iconst X71.here hx rfl (hb hby at_51) k) ?_
    refine Go.step (fun _ k => XS.iload X71.here hx rfl (hb hby at_52) rfl k) ?_
    obtain ⟨_, _, ⟨T72, L72, k72, n72⟩, -, X72, ⟨Lc72, hQ72, l72, y72, z72⟩, st72⟩ := Jvm.LawKit.callS X71 hx (y := (⟨"com/example/wayfront/wayfront/paths/ShortestPathTreeIsPathToPinLaw", "link", "(II)I"⟩ : MethodName)) hown (mvT hZ (hw _ (List.mem_of_getElem? (i := 1) rfl))) (mvT hZ (hw _ (List.mem_of_getElem? (i := 2) rfl))) (mvT hZ (hw _ (List.mem_of_getElem? (i := 3) rfl))) (mvT hZ (hw _ (List.mem_of_getElem? (i := 4) rfl))) (by decide) (backOf (W := 0) (rmLk l Z a0 hw [] (4 : Int32) (0 : Int32) h0 n0 Z0 ) hZ (hw _ (List.mem_of_getElem? (i := 4) rfl)) (hw _ (List.mem_of_getElem? (i := 3) rfl)) (by decide) (by decide)) (g := (mkF m 54 #[.val (.int ish), .val (.int ind), .val (.int iln), .val (.int ie0), .val (.int ie1), .val (.int ie2), .val (.int vp3), .val (.int vp4), .val (.int (0 : Int32)), .val (.int vn), .val (.int (0 : Int32)), .val (.int (1 : Int32)), .unset, .unset, .unset, .unset, .unset, .unset, .unset, .unset, .unset, .unset, .unset, .unset, .unset, .unset] [(.int (0 : Int32)), (.int (4 : Int32))])) rfl (by rw [hml]; rfl) (argsL := [(.int (4 : Int32)), (.int (0 : Int32))]) (rest := []) (lenOf pd__II_I rfl) rfl (by show 2 * 0 + _ ≤ _; exact Nat.le_of_eq rfl) (hb hby at_54) (fun _ _ => ⟨rfl, e71, (by decide : 0 + 0 ≤ _), (by decide : 0 + 0 ≤ _)⟩)
    dsimp only [Pt.U, Pt.locs, Pt.cells, Pt.slots] at X72 l72 y72 z72 st72 hQ72
    subst l72 y72 z72
    obtain ⟨h72, e72⟩ : ∃ h, T72.heap = h := ⟨_, rfl⟩
    rw [e72] at hQ72
    obtain ⟨rfl, Nq72, hs72⟩ := hQ72
    have N72 := Fr.app N71 Nq72
    rw [hs72] at e72
    refine Go.step st72 ?_
    rw [show (own_lk (4 : Int32) (0 : Int32)) = (2 : Int32) from by decide]
    show Go _ _ _ _ _ _ _ T72 (mkF m 57 #[.val (.int ish), .val (.int ind), .val (.int iln), .val (.int ie0), .val (.int ie1), .val (.int ie2), .val (.int vp3), .val (.int vp4), .val (.int (0 : Int32)), .val (.int vn), .val (.int (0 : Int32)), .val (.int (1 : Int32)), .unset, .unset, .unset, .unset, .unset, .unset, .unset, .unset, .unset, .unset, .unset, .unset, .unset, .unset] [(.int (2 : Int32))])
    refine Go.step (fun _ k => XS.istore X72.here hx rfl (hb hby at_57) rfl (l' := #[.val (.int ish), .val (.int ind), .val (.int iln), .val (.int ie0), .val (.int ie1), .val (.int ie2), .val (.int vp3), .val (.int vp4), .val (.int (0 : Int32)), .val (.int vn), .val (.int (0 : Int32)), .val (.int (1 : Int32)), .val (.int (2 : Int32)), .unset, .unset, .unset, .unset, .unset, .unset, .unset, .unset, .unset, .unset, .unset, .unset, .unset]) rfl k) ?_
    show Go _ _ _ _ _ _ _ T72 (mkF m 59 #[.val (.int ish), .val (.int ind), .val (.int iln), .val (.int ie0), .val (.int ie1), .val (.int ie2), .val (.int vp3), .val (.int vp4), .val (.int (0 : Int32)), .val (.int vn), .val (.int (0 : Int32)), .val (.int (1 : Int32)), .val (.int (2 : Int32)), .unset, .unset, .unset, .unset, .unset, .unset, .unset, .unset, .unset, .unset, .unset, .unset, .unset] [])
    refine Go.step (fun _ k => XS.iconst X72.here hx rfl (hb hby at_59) k) ?_
    obtain ⟨T73, h73, k73, X73, e73, E73, A73, st73⟩ := newP X72 hx hZ (hw _ (List.mem_of_getElem? (i := 5) rfl)) e72 (g := (mkF m 60 #[.val (.int ish), .val (.int ind), .val (.int iln), .val (.int ie0), .val (.int ie1), .val (.int ie2), .val (.int vp3), .val (.int vp4), .val (.int (0 : Int32)), .val (.int vn), .val (.int (0 : Int32)), .val (.int (1 : Int32)), .val (.int (2 : Int32)), .unset, .unset, .unset, .unset, .unset, .unset, .unset, .unset, .unset, .unset, .unset, .unset, .unset] [(.int (5 : Int32))])) rfl (hb hby at_60) rfl (by decide) (cap := 5) (by decide) (by decide) (by decide) (by decide)
    obtain ⟨b73, g73⟩ : ∃ z, z = h0.size := ⟨_, rfl⟩
    rw [← g73] at A73 st73
    refine Go.step st73 ?_
    have g_b73 : n0 ≤ b73 := Nat.le_trans Z0 (Nat.le_of_eq g73.symm)
    have Z73 : n0 ≤ h73.size := Nat.le_trans Z0 E73.1
    have V73 : Arv Z h73 b73 k73 .int (5 : Int32) [] (.int (0 : Int32)) := Arv.new A73 (by decide)
    have V74 : Arv Z h73 b73 k73 .int (5 : Int32) [(.int (0 : Int32)), (.int (0 : Int32)), (.int (0 : Int32)), (.int (0 : Int32)), (.int (0 : Int32))] (.int (0 : Int32)) := (V73).pad (pad_rep [] (.int (0 : Int32)) 5)
    show Go _ _ _ _ _ _ _ T73 (mkF m 62 #[.val (.int ish), .val (.int ind), .val (.int iln), .val (.int ie0), .val (.int ie1), .val (.int ie2), .val (.int vp3), .val (.int vp4), .val (.int (0 : Int32)), .val (.int vn), .val (.int (0 : Int32)), .val (.int (1 : Int32)), .val (.int (2 : Int32)), .unset, .unset, .unset, .unset, .unset, .unset, .unset, .unset, .unset, .unset, .unset, .unset, .unset] [(.ref b73)])
    refine Go.step (fun _ k => XS.astore X73.here hx rfl (hb hby at_62) rfl rfl (l' := #[.val (.int ish), .val (.int ind), .val (.int iln), .val (.int ie0), .val (.int ie1), .val (.int ie2), .val (.int vp3), .val (.int vp4), .val (.int (0 : Int32)), .val (.int vn), .val (.int (0 : Int32)), .val (.int (1 : Int32)), .val (.int (2 : Int32)), .val (.ref b73), .unset, .unset, .unset, .unset, .unset, .unset, .unset, .unset, .unset, .unset, .unset, .unset]) rfl k) ?_
    show Go _ _ _ _ _ _ _ T73 (mkF m 64 #[.val (.int ish), .val (.int ind), .val (.int iln), .val (.int ie0), .val (.int ie1), .val (.int ie2), .val (.int vp3), .val (.int vp4), .val (.int (0 : Int32)), .val (.int vn), .val (.int (0 : Int32)), .val (.int (1 : Int32)), .val (.int (2 : Int32)), .val (.ref b73), .unset, .unset, .unset, .unset, .unset, .unset, .unset, .unset, .unset, .unset, .unset, .unset] [])
    refine Go.step (fun _ k => XS.aload X73.here hx rfl (hb hby at_64) rfl rfl k) ?_
    refine Go.step (fun _ k => XS.iconst X73.here hx rfl (hb hby at_66) k) ?_
    refine Go.step (fun _ k => XS.iconst X73.here hx rfl (hb hby at_67) k) ?_
    obtain ⟨cl75, Ar75, q75, S75, M75, H75, G75⟩ := id (V74)
    have hin75 : ¬ ((0 : Int32) < 0 ∨ cl75.slots.size ≤ ((0 : Int32)).toNatClampNeg) := inb_of S75 ⟨by decide, by decide⟩
    obtain ⟨T75, h75, X75, e75, W75, st75⟩ := stI X73 hx hZ e73 Ar75 (j := (0 : Int32)) hin75 (g := (mkF m 68 #[.val (.int ish), .val (.int ind), .val (.int iln), .val (.int ie0), .val (.int ie1), .val (.int ie2), .val (.int vp3), .val (.int vp4), .val (.int (0 : Int32)), .val (.int vn), .val (.int (0 : Int32)), .val (.int (1 : Int32)), .val (.int (2 : Int32)), .val (.ref b73), .unset, .unset, .unset, .unset, .unset, .unset, .unset, .unset, .unset, .unset, .unset, .unset] [(.int (-1 : Int32)), (.int (0 : Int32)), (.ref b73)])) rfl rfl (hb hby at_68)
    refine Go.step st75 ?_
    have V75 : Arv Z h75 b73 k73 .int (5 : Int32) [(.int (-1 : Int32)), (.int (0 : Int32)), (.int (0 : Int32)), (.int (0 : Int32)), (.int (0 : Int32))] (.int (0 : Int32)) := Arv.set Ar75 q75 S75 M75 H75 G75 rfl W75 0 rfl (Nat.le_of_ble_eq_true rfl)
    have N75 := Fr.snoc X75 N72 g_b73
    have Z75 : n0 ≤ h75.size := Nat.le_trans Z73 (Keep.of_wr W75).1
    show Go _ _ _ _ _ _ _ T75 (mkF m 69 #[.val (.int ish), .val (.int ind), .val (.int iln), .val (.int ie0), .val (.int ie1), .val (.int ie2), .val (.int vp3), .val (.int vp4), .val (.int (0 : Int32)), .val (.int vn), .val (.int (0 : Int32)), .val (.int (1 : Int32)), .val (.int (2 : Int32)), .val (.ref b73), .unset, .unset, .unset, .unset, .unset, .unset, .unset, .unset, .unset, .unset, .unset, .unset] [])
    refine Go.step (fun _ k => XS.aload X75.here hx rfl (hb hby at_69) rfl rfl k) ?_
    refine Go.step (fun _ k => XS.iconst X75.here hx rfl (hb hby at_71) k) ?_
    refine Go.step (fun _ k => XS.iconst X75.here hx rfl (hb hby at_72) k) ?_
    obtain ⟨cl76, Ar76, q76, S76, M76, H76, G76⟩ := id (V75)
    have hin76 : ¬ ((1 : Int32) < 0 ∨ cl76.slots.size ≤ ((1 : Int32)).toNatClampNeg) := inb_of S76 ⟨by decide, by decide⟩
    obtain ⟨T76, h76, X76, e76, W76, st76⟩ := stI X75 hx hZ e75 Ar76 (j := (1 : Int32)) hin76 (g := (mkF m 73 #[.val (.int ish), .val (.int ind), .val (.int iln), .val (.int ie0), .val (.int ie1), .val (.int ie2), .val (.int vp3), .val (.int vp4), .val (.int (0 : Int32)), .val (.int vn), .val (.int (0 : Int32)), .val (.int (1 : Int32)), .val (.int (2 : Int32)), .val (.ref b73), .unset, .unset, .unset, .unset, .unset, .unset, .unset, .unset, .unset, .unset, .unset, .unset] [(.int (-1 : Int32)), (.int (1 : Int32)), (.ref b73)])) rfl rfl (hb hby at_73)
    refine Go.step st76 ?_
    have V76 : Arv Z h76 b73 k73 .int (5 : Int32) [(.int (-1 : Int32)), (.int (-1 : Int32)), (.int (0 : Int32)), (.int (0 : Int32)), (.int (0 : Int32))] (.int (0 : Int32)) := Arv.set Ar76 q76 S76 M76 H76 G76 rfl W76 1 rfl (Nat.le_of_ble_eq_true rfl)
    have N76 := Fr.snoc X76 N75 g_b73
    have Z76 : n0 ≤ h76.size := Nat.le_trans Z75 (Keep.of_wr W76).1
    show Go _ _ _ _ _ _ _ T76 (mkF m 74 #[.val (.int ish), .val (.int ind), .val (.int iln), .val (.int ie0), .val (.int ie1), .val (.int ie2), .val (.int vp3), .val (.int vp4), .val (.int (0 : Int32)), .val (.int vn), .val (.int (0 : Int32)), .val (.int (1 : Int32)), .val (.int (2 : Int32)), .val (.ref b73), .unset, .unset, .unset, .unset, .unset, .unset, .unset, .unset, .unset, .unset, .unset, .unset] [])
    refine Go.step (fun _ k => XS.aload X76.here hx rfl (hb hby at_74) rfl rfl k) ?_
    refine Go.step (fun _ k => XS.iconst X76.here hx rfl (hb hby at_76) k) ?_
    refine Go.step (fun _ k => XS.iload X76.here hx rfl (hb hby at_77) rfl k) ?_
    obtain ⟨cl77, Ar77, q77, S77, M77, H77, G77⟩ := id (V76)
    have hin77 : ¬ ((2 : Int32) < 0 ∨ cl77.slots.size ≤ ((2 : Int32)).toNatClampNeg) := inb_of S77 ⟨by decide, by decide⟩
    obtain ⟨T77, h77, X77, e77, W77, st77⟩ := stI X76 hx hZ e76 Ar77 (j := (2 : Int32)) hin77 (g := (mkF m 79 #[.val (.int ish), .val (.int ind), .val (.int iln), .val (.int ie0), .val (.int ie1), .val (.int ie2), .val (.int vp3), .val (.int vp4), .val (.int (0 : Int32)), .val (.int vn), .val (.int (0 : Int32)), .val (.int (1 : Int32)), .val (.int (2 : Int32)), .val (.ref b73), .unset, .unset, .unset, .unset, .unset, .unset, .unset, .unset, .unset, .unset, .unset, .unset] [(.int (0 : Int32)), (.int (2 : Int32)), (.ref b73)])) rfl rfl (hb hby at_79)
    refine Go.step st77 ?_
    have V77 : Arv Z h77 b73 k73 .int (5 : Int32) [(.int (-1 : Int32)), (.int (-1 : Int32)), (.int (0 : Int32)), (.int (0 : Int32)), (.int (0 : Int32))] (.int (0 : Int32)) := Arv.set Ar77 q77 S77 M77 H77 G77 rfl W77 2 rfl (Nat.le_of_ble_eq_true rfl)
    have N77 := Fr.snoc X77 N76 g_b73
    have Z77 : n0 ≤ h77.size := Nat.le_trans Z76 (Keep.of_wr W77).1
    show Go _ _ _ _ _ _ _ T77 (mkF m 80 #[.val (.int ish), .val (.int ind), .val (.int iln), .val (.int ie0), .val (.int ie1), .val (.int ie2), .val (.int vp3), .val (.int vp4), .val (.int (0 : Int32)), .val (.int vn), .val (.int (0 : Int32)), .val (.int (1 : Int32)), .val (.int (2 : Int32)), .val (.ref b73), .unset, .unset, .unset, .unset, .unset, .unset, .unset, .unset, .unset, .unset, .unset, .unset] [])
    refine Go.step (fun _ k => XS.aload X77.here hx rfl (hb hby at_80) rfl rfl k) ?_
    refine Go.step (fun _ k => XS.iconst X77.here hx rfl (hb hby at_82) k) ?_
    refine Go.step (fun _ k => XS.iload X77.here hx rfl (hb hby at_83) rfl k) ?_
    obtain ⟨cl78, Ar78, q78, S78, M78, H78, G78⟩ := id (V77)
    have hin78 : ¬ ((3 : Int32) < 0 ∨ cl78.slots.size ≤ ((3 : Int32)).toNatClampNeg) := inb_of S78 ⟨by decide, by decide⟩
    obtain ⟨T78, h78, X78, e78, W78, st78⟩ := stI X77 hx hZ e77 Ar78 (j := (3 : Int32)) hin78 (g := (mkF m 85 #[.val (.int ish), .val (.int ind), .val (.int iln), .val (.int ie0), .val (.int ie1), .val (.int ie2), .val (.int vp3), .val (.int vp4), .val (.int (0 : Int32)), .val (.int vn), .val (.int (0 : Int32)), .val (.int (1 : Int32)), .val (.int (2 : Int32)), .val (.ref b73), .unset, .unset, .unset, .unset, .unset, .unset, .unset, .unset, .unset, .unset, .unset, .unset] [(.int (1 : Int32)), (.int (3 : Int32)), (.ref b73)])) rfl rfl (hb hby at_85)
    refine Go.step st78 ?_
    have V78 : Arv Z h78 b73 k73 .int (5 : Int32) [(.int (-1 : Int32)), (.int (-1 : Int32)), (.int (0 : Int32)), (.int (1 : Int32)), (.int (0 : Int32))] (.int (0 : Int32)) := Arv.set Ar78 q78 S78 M78 H78 G78 rfl W78 3 rfl (Nat.le_of_ble_eq_true rfl)
    have N78 := Fr.snoc X78 N77 g_b73
    have Z78 : n0 ≤ h78.size := Nat.le_trans Z77 (Keep.of_wr W78).1
    show Go _ _ _ _ _ _ _ T78 (mkF m 86 #[.val (.int ish), .val (.int ind), .val (.int iln), .val (.int ie0), .val (.int ie1), .val (.int ie2), .val (.int vp3), .val (.int vp4), .val (.int (0 : Int32)), .val (.int vn), .val (.int (0 : Int32)), .val (.int (1 : Int32)), .val (.int (2 : Int32)), .val (.ref b73), .unset, .unset, .unset, .unset, .unset, .unset, .unset, .unset, .unset, .unset, .unset, .unset] [])
    refine Go.step (fun _ k => XS.aload X78.here hx rfl (hb hby at_86) rfl rfl k) ?_
    refine Go.step (fun _ k => XS.iconst X78.here hx rfl (hb hby at_88) k) ?_
    refine Go.step (fun _ k => XS.iload X78.here hx rfl (hb hby at_89) rfl k) ?_
    obtain ⟨cl79, Ar79, q79, S79, M79, H79, G79⟩ := id (V78)
    have hin79 : ¬ ((4 : Int32) < 0 ∨ cl79.slots.size ≤ ((4 : Int32)).toNatClampNeg) := inb_of S79 ⟨by decide, by decide⟩
    obtain ⟨T79, h79, X79, e79, W79, st79⟩ := stI X78 hx hZ e78 Ar79 (j := (4 : Int32)) hin79 (g := (mkF m 91 #[.val (.int ish), .val (.int ind), .val (.int iln), .val (.int ie0), .val (.int ie1), .val (.int ie2), .val (.int vp3), .val (.int vp4), .val (.int (0 : Int32)), .val (.int vn), .val (.int (0 : Int32)), .val (.int (1 : Int32)), .val (.int (2 : Int32)), .val (.ref b73), .unset, .unset, .unset, .unset, .unset, .unset, .unset, .unset, .unset, .unset, .unset, .unset] [(.int (2 : Int32)), (.int (4 : Int32)), (.ref b73)])) rfl rfl (hb hby at_91)
    refine Go.step st79 ?_
    have V79 : Arv Z h79 b73 k73 .int (5 : Int32) [(.int (-1 : Int32)), (.int (-1 : Int32)), (.int (0 : Int32)), (.int (1 : Int32)), (.int (2 : Int32))] (.int (0 : Int32)) := Arv.set Ar79 q79 S79 M79 H79 G79 rfl W79 4 rfl (Nat.le_of_ble_eq_true rfl)
    have N79 := Fr.snoc X79 N78 g_b73
    have Z79 : n0 ≤ h79.size := Nat.le_trans Z78 (Keep.of_wr W79).1
    show Go _ _ _ _ _ _ _ T79 (mkF m 92 #[.val (.int ish), .val (.int ind), .val (.int iln), .val (.int ie0), .val (.int ie1), .val (.int ie2), .val (.int vp3), .val (.int vp4), .val (.int (0 : Int32)), .val (.int vn), .val (.int (0 : Int32)), .val (.int (1 : Int32)), .val (.int (2 : Int32)), .val (.ref b73), .unset, .unset, .unset, .unset, .unset, .unset, .unset, .unset, .unset, .unset, .unset, .unset] [])
    refine Go.step (fun _ k => XS.iconst X79.here hx rfl (hb hby at_92) k) ?_
    obtain ⟨T80, h80, k80, X80, e80, E80, A80, st80⟩ := newP X79 hx hZ (hw _ (List.mem_of_getElem? (i := 5) rfl)) e79 (g := (mkF m 93 #[.val (.int ish), .val (.int ind), .val (.int iln), .val (.int ie0), .val (.int ie1), .val (.int ie2), .val (.int vp3), .val (.int vp4), .val (.int (0 : Int32)), .val (.int vn), .val (.int (0 : Int32)), .val (.int (1 : Int32)), .val (.int (2 : Int32)), .val (.ref b73), .unset, .unset, .unset, .unset, .unset, .unset, .unset, .unset, .unset, .unset, .unset, .unset] [(.int (3 : Int32))])) rfl (hb hby at_93) rfl (by decide) (cap := 3) (by decide) (by decide) (by decide) (by decide)
    obtain ⟨b80, g80⟩ : ∃ z, z = h79.size := ⟨_, rfl⟩
    rw [← g80] at A80 st80
    refine Go.step st80 ?_
    have g_b80 : n0 ≤ b80 := Nat.le_trans Z79 (Nat.le_of_eq g80.symm)
    have ne_b73_b80 : b73 ≠ b80 := Nat.ne_of_lt (Nat.lt_of_lt_of_le V79.lt (Nat.le_of_eq g80.symm))
    have Z80 : n0 ≤ h80.size := Nat.le_trans Z79 E80.1
    have V80 : Arv Z h80 b80 k80 .int (3 : Int32) [] (.int (0 : Int32)) := Arv.new A80 (by decide)
    have V81 : Arv Z h80 b80 k80 .int (3 : Int32) [(.int (0 : Int32)), (.int (0 : Int32)), (.int (0 : Int32))] (.int (0 : Int32)) := (V80).pad (pad_rep [] (.int (0 : Int32)) 3)
    show Go _ _ _ _ _ _ _ T80 (mkF m 95 #[.val (.int ish), .val (.int ind), .val (.int iln), .val (.int ie0), .val (.int ie1), .val (.int ie2), .val (.int vp3), .val (.int vp4), .val (.int (0 : Int32)), .val (.int vn), .val (.int (0 : Int32)), .val (.int (1 : Int32)), .val (.int (2 : Int32)), .val (.ref b73), .unset, .unset, .unset, .unset, .unset, .unset, .unset, .unset, .unset, .unset, .unset, .unset] [(.ref b80)])
    refine Go.step (fun _ k => XS.astore X80.here hx rfl (hb hby at_95) rfl rfl (l' := #[.val (.int ish), .val (.int ind), .val (.int iln), .val (.int ie0), .val (.int ie1), .val (.int ie2), .val (.int vp3), .val (.int vp4), .val (.int (0 : Int32)), .val (.int vn), .val (.int (0 : Int32)), .val (.int (1 : Int32)), .val (.int (2 : Int32)), .val (.ref b73), .val (.ref b80), .unset, .unset, .unset, .unset, .unset, .unset, .unset, .unset, .unset, .unset, .unset]) rfl k) ?_
    show Go _ _ _ _ _ _ _ T80 (mkF m 97 #[.val (.int ish), .val (.int ind), .val (.int iln), .val (.int ie0), .val (.int ie1), .val (.int ie2), .val (.int vp3), .val (.int vp4), .val (.int (0 : Int32)), .val (.int vn), .val (.int (0 : Int32)), .val (.int (1 : Int32)), .val (.int (2 : Int32)), .val (.ref b73), .val (.ref b80), .unset, .unset, .unset, .unset, .unset, .unset, .unset, .unset, .unset, .unset, .unset] [])
    refine Go.step (fun _ k => XS.aload X80.here hx rfl (hb hby at_97) rfl rfl k) ?_
    refine Go.step (fun _ k => XS.iload X80.here hx rfl (hb hby at_99) rfl k) ?_
    refine Go.step (fun _ k => XS.iconst X80.here hx rfl (hb hby at_101) k) ?_
    obtain ⟨cl82, Ar82, q82, S82, M82, H82, G82⟩ := id (V81)
    have hin82 : ¬ ((0 : Int32) < 0 ∨ cl82.slots.size ≤ ((0 : Int32)).toNatClampNeg) := inb_of S82 ⟨by decide, by decide⟩
    obtain ⟨T82, h82, X82, e82, W82, st82⟩ := stI X80 hx hZ e80 Ar82 (j := (0 : Int32)) hin82 (g := (mkF m 102 #[.val (.int ish), .val (.int ind), .val (.int iln), .val (.int ie0), .val (.int ie1), .val (.int ie2), .val (.int vp3), .val (.int vp4), .val (.int (0 : Int32)), .val (.int vn), .val (.int (0 : Int32)), .val (.int (1 : Int32)), .val (.int (2 : Int32)), .val (.ref b73), .val (.ref b80), .unset, .unset, .unset, .unset, .unset, .unset, .unset, .unset, .unset, .unset, .unset] [(.int (1 : Int32)), (.int (0 : Int32)), (.ref b80)])) rfl rfl (hb hby at_102)
    refine Go.step st82 ?_
    have V82 : Arv Z h82 b80 k80 .int (3 : Int32) [(.int (1 : Int32)), (.int (0 : Int32)), (.int (0 : Int32))] (.int (0 : Int32)) := Arv.set Ar82 q82 S82 M82 H82 G82 rfl W82 0 rfl (Nat.le_of_ble_eq_true rfl)
    have N82 := Fr.snoc X82 N79 g_b80
    have Z82 : n0 ≤ h82.size := Nat.le_trans Z80 (Keep.of_wr W82).1
    show Go _ _ _ _ _ _ _ T82 (mkF m 103 #[.val (.int ish), .val (.int ind), .val (.int iln), .val (.int ie0), .val (.int ie1), .val (.int ie2), .val (.int vp3), .val (.int vp4), .val (.int (0 : Int32)), .val (.int vn), .val (.int (0 : Int32)), .val (.int (1 : Int32)), .val (.int (2 : Int32)), .val (.ref b73), .val (.ref b80), .unset, .unset, .unset, .unset, .unset, .unset, .unset, .unset, .unset, .unset, .unset] [])
    refine Go.step (fun _ k => XS.aload X82.here hx rfl (hb hby at_103) rfl rfl k) ?_
    refine Go.step (fun _ k => XS.iload X82.here hx rfl (hb hby at_105) rfl k) ?_
    refine Go.step (fun _ k => XS.iload X82.here hx rfl (hb hby at_107) rfl k) ?_
    obtain ⟨cl83, Ar83, q83, S83, M83, H83, G83⟩ := id (V82)
    have hin83 : ¬ ((1 : Int32) < 0 ∨ cl83.slots.size ≤ ((1 : Int32)).toNatClampNeg) := inb_of S83 ⟨by decide, by decide⟩
    obtain ⟨T83, h83, X83, e83, W83, st83⟩ := stI X82 hx hZ e82 Ar83 (j := (1 : Int32)) hin83 (g := (mkF m 109 #[.val (.int ish), .val (.int ind), .val (.int iln), .val (.int ie0), .val (.int ie1), .val (.int ie2), .val (.int vp3), .val (.int vp4), .val (.int (0 : Int32)), .val (.int vn), .val (.int (0 : Int32)), .val (.int (1 : Int32)), .val (.int (2 : Int32)), .val (.ref b73), .val (.ref b80), .unset, .unset, .unset, .unset, .unset, .unset, .unset, .unset, .unset, .unset, .unset] [(.int vp3), (.int (1 : Int32)), (.ref b80)])) rfl rfl (hb hby at_109)
    refine Go.step st83 ?_
    have V83 : Arv Z h83 b80 k80 .int (3 : Int32) [(.int (1 : Int32)), (.int vp3), (.int (0 : Int32))] (.int (0 : Int32)) := Arv.set Ar83 q83 S83 M83 H83 G83 rfl W83 1 rfl (Nat.le_of_ble_eq_true rfl)
    have N83 := Fr.snoc X83 N82 g_b80
    have Z83 : n0 ≤ h83.size := Nat.le_trans Z82 (Keep.of_wr W83).1
    show Go _ _ _ _ _ _ _ T83 (mkF m 110 #[.val (.int ish), .val (.int ind), .val (.int iln), .val (.int ie0), .val (.int ie1), .val (.int ie2), .val (.int vp3), .val (.int vp4), .val (.int (0 : Int32)), .val (.int vn), .val (.int (0 : Int32)), .val (.int (1 : Int32)), .val (.int (2 : Int32)), .val (.ref b73), .val (.ref b80), .unset, .unset, .unset, .unset, .unset, .unset, .unset, .unset, .unset, .unset, .unset] [])
    refine Go.step (fun _ k => XS.aload X83.here hx rfl (hb hby at_110) rfl rfl k) ?_
    refine Go.step (fun _ k => XS.iload X83.here hx rfl (hb hby at_112) rfl k) ?_
    refine Go.step (fun _ k => XS.iload X83.here hx rfl (hb hby at_114) rfl k) ?_
    obtain ⟨cl84, Ar84, q84, S84, M84, H84, G84⟩ := id (V83)
    have hin84 : ¬ ((2 : Int32) < 0 ∨ cl84.slots.size ≤ ((2 : Int32)).toNatClampNeg) := inb_of S84 ⟨by decide, by decide⟩
    obtain ⟨T84, h84, X84, e84, W84, st84⟩ := stI X83 hx hZ e83 Ar84 (j := (2 : Int32)) hin84 (g := (mkF m 116 #[.val (.int ish), .val (.int ind), .val (.int iln), .val (.int ie0), .val (.int ie1), .val (.int ie2), .val (.int vp3), .val (.int vp4), .val (.int (0 : Int32)), .val (.int vn), .val (.int (0 : Int32)), .val (.int (1 : Int32)), .val (.int (2 : Int32)), .val (.ref b73), .val (.ref b80), .unset, .unset, .unset, .unset, .unset, .unset, .unset, .unset, .unset, .unset, .unset] [(.int vp4), (.int (2 : Int32)), (.ref b80)])) rfl rfl (hb hby at_116)
    refine Go.step st84 ?_
    have V84 : Arv Z h84 b80 k80 .int (3 : Int32) [(.int (1 : Int32)), (.int vp3), (.int vp4)] (.int (0 : Int32)) := Arv.set Ar84 q84 S84 M84 H84 G84 rfl W84 2 rfl (Nat.le_of_ble_eq_true rfl)
    have N84 := Fr.snoc X84 N83 g_b80
    have Z84 : n0 ≤ h84.size := Nat.le_trans Z83 (Keep.of_wr W84).1
    show Go _ _ _ _ _ _ _ T84 (mkF m 117 #[.val (.int ish), .val (.int ind), .val (.int iln), .val (.int ie0), .val (.int ie1), .val (.int ie2), .val (.int vp3), .val (.int vp4), .val (.int (0 : Int32)), .val (.int vn), .val (.int (0 : Int32)), .val (.int (1 : Int32)), .val (.int (2 : Int32)), .val (.ref b73), .val (.ref b80), .unset, .unset, .unset, .unset, .unset, .unset, .unset, .unset, .unset, .unset, .unset] [])
    refine Go.step (fun _ k => XS.iconst X84.here hx rfl (hb hby at_117) k) ?_
    have f86 : Arv Z h84 b73 k73 .int (5 : Int32) [(.int (-1 : Int32)), (.int (-1 : Int32)), (.int (0 : Int32)), (.int (1 : Int32)), (.int (2 : Int32))] (.int (0 : Int32)) := ((((V79.ext E80).other W82 ne_b73_b80).other W83 ne_b73_b80).other W84 ne_b73_b80)
    obtain ⟨T85, h85, k85, X85, e85, E85, A85, st85⟩ := newP X84 hx hZ (hw _ (List.mem_of_getElem? (i := 6) rfl)) e84 (g := (mkF m 118 #[.val (.int ish), .val (.int ind), .val (.int iln), .val (.int ie0), .val (.int ie1), .val (.int ie2), .val (.int vp3), .val (.int vp4), .val (.int (0 : Int32)), .val (.int vn), .val (.int (0 : Int32)), .val (.int (1 : Int32)), .val (.int (2 : Int32)), .val (.ref b73), .val (.ref b80), .unset, .unset, .unset, .unset, .unset, .unset, .unset, .unset, .unset, .unset, .unset] [(.int (5 : Int32))])) rfl (hb hby at_118) rfl (by decide) (cap := 5) (by decide) (by decide) (by decide) (by decide)
    obtain ⟨b85, g85⟩ : ∃ z, z = h84.size := ⟨_, rfl⟩
    rw [← g85] at A85 st85
    refine Go.step st85 ?_
    have g_b85 : n0 ≤ b85 := Nat.le_trans Z84 (Nat.le_of_eq g85.symm)
    have ne_b73_b85 : b73 ≠ b85 := Nat.ne_of_lt (Nat.lt_of_lt_of_le f86.lt (Nat.le_of_eq g85.symm))
    have ne_b80_b85 : b80 ≠ b85 := Nat.ne_of_lt (Nat.lt_of_lt_of_le V84.lt (Nat.le_of_eq g85.symm))
    have Z85 : n0 ≤ h85.size := Nat.le_trans Z84 E85.1
    have V85 : Arv Z h85 b85 k85 .double (5 : Int32) [] (.double (0 : UInt64)) := Arv.new A85 (by decide)
    have V87 : Arv Z h85 b85 k85 .double (5 : Int32) [(.double (0 : UInt64)), (.double (0 : UInt64)), (.double (0 : UInt64)), (.double (0 : UInt64)), (.double (0 : UInt64))] (.double (0 : UInt64)) := (V85).pad (pad_rep [] (.double (0 : UInt64)) 5)
    show Go _ _ _ _ _ _ _ T85 (mkF m 120 #[.val (.int ish), .val (.int ind), .val (.int iln), .val (.int ie0), .val (.int ie1), .val (.int ie2), .val (.int vp3), .val (.int vp4), .val (.int (0 : Int32)), .val (.int vn), .val (.int (0 : Int32)), .val (.int (1 : Int32)), .val (.int (2 : Int32)), .val (.ref b73), .val (.ref b80), .unset, .unset, .unset, .unset, .unset, .unset, .unset, .unset, .unset, .unset, .unset] [(.ref b85)])
    refine Go.step (fun _ k => XS.dup X85.here hx rfl (hb hby at_120) rfl rfl k) ?_
    refine Go.step (fun _ k => XS.iconst X85.here hx rfl (hb hby at_121) k) ?_
    refine Go.step (fun _ k => XS.dconst0 X85.here hx rfl (v := (0 : UInt64)) (hb hby at_122) (by decide +kernel) k) ?_
    obtain ⟨cl88, Ar88, q88, S88, M88, H88, G88⟩ := id (V87)
    have hin88 : ¬ ((0 : Int32) < 0 ∨ cl88.slots.size ≤ ((0 : Int32)).toNatClampNeg) := inb_of S88 ⟨by decide, by decide⟩
    obtain ⟨T88, h88, X88, e88, W88, st88⟩ := stD X85 hx hZ e85 Ar88 (j := (0 : Int32)) hin88 (g := (mkF m 123 #[.val (.int ish), .val (.int ind), .val (.int iln), .val (.int ie0), .val (.int ie1), .val (.int ie2), .val (.int vp3), .val (.int vp4), .val (.int (0 : Int32)), .val (.int vn), .val (.int (0 : Int32)), .val (.int (1 : Int32)), .val (.int (2 : Int32)), .val (.ref b73), .val (.ref b80), .unset, .unset, .unset, .unset, .unset, .unset, .unset, .unset, .unset, .unset, .unset] [(.double (0 : UInt64)), (.int (0 : Int32)), (.ref b85), (.ref b85)])) rfl rfl (hb hby at_123)
    refine Go.step st88 ?_
    have V88 : Arv Z h88 b85 k85 .double (5 : Int32) [(.double (0 : UInt64)), (.double (0 : UInt64)), (.double (0 : UInt64)), (.double (0 : UInt64)), (.double (0 : UInt64))] (.double (0 : UInt64)) := Arv.set Ar88 q88 S88 M88 H88 G88 rfl W88 0 rfl (Nat.le_of_ble_eq_true rfl)
    have N88 := Fr.snoc X88 N84 g_b85
    have Z88 : n0 ≤ h88.size := Nat.le_trans Z85 (Keep.of_wr W88).1
    show Go _ _ _ _ _ _ _ T88 (mkF m 124 #[.val (.int ish), .val (.int ind), .val (.int iln), .val (.int ie0), .val (.int ie1), .val (.int ie2), .val (.int vp3), .val (.int vp4), .val (.int (0 : Int32)), .val (.int vn), .val (.int (0 : Int32)), .val (.int (1 : Int32)), .val (.int (2 : Int32)), .val (.ref b73), .val (.ref b80), .unset, .unset, .unset, .unset, .unset, .unset, .unset, .unset, .unset, .unset, .unset] [(.ref b85)])
    refine Go.step (fun _ k => XS.dup X88.here hx rfl (hb hby at_124) rfl rfl k) ?_
    refine Go.step (fun _ k => XS.iconst X88.here hx rfl (hb hby at_125) k) ?_
    refine Go.step (fun _ k => XS.dconst0 X88.here hx rfl (v := (0 : UInt64)) (hb hby at_126) (by decide +kernel) k) ?_
    obtain ⟨cl89, Ar89, q89, S89, M89, H89, G89⟩ := id (V88)
    have hin89 : ¬ ((1 : Int32) < 0 ∨ cl89.slots.size ≤ ((1 : Int32)).toNatClampNeg) := inb_of S89 ⟨by decide, by decide⟩
    obtain ⟨T89, h89, X89, e89, W89, st89⟩ := stD X88 hx hZ e88 Ar89 (j := (1 : Int32)) hin89 (g := (mkF m 127 #[.val (.int ish), .val (.int ind), .val (.int iln), .val (.int ie0), .val (.int ie1), .val (.int ie2), .val (.int vp3), .val (.int vp4), .val (.int (0 : Int32)), .val (.int vn), .val (.int (0 : Int32)), .val (.int (1 : Int32)), .val (.int (2 : Int32)), .val (.ref b73), .val (.ref b80), .unset, .unset, .unset, .unset, .unset, .unset, .unset, .unset, .unset, .unset, .unset] [(.double (0 : UInt64)), (.int (1 : Int32)), (.ref b85), (.ref b85)])) rfl rfl (hb hby at_127)
    refine Go.step st89 ?_
    have V89 : Arv Z h89 b85 k85 .double (5 : Int32) [(.double (0 : UInt64)), (.double (0 : UInt64)), (.double (0 : UInt64)), (.double (0 : UInt64)), (.double (0 : UInt64))] (.double (0 : UInt64)) := Arv.set Ar89 q89 S89 M89 H89 G89 rfl W89 1 rfl (Nat.le_of_ble_eq_true rfl)
    have N89 := Fr.snoc X89 N88 g_b85
    have Z89 : n0 ≤ h89.size := Nat.le_trans Z88 (Keep.of_wr W89).1
    show Go _ _ _ _ _ _ _ T89 (mkF m 128 #[.val (.int ish), .val (.int ind), .val (.int iln), .val (.int ie0), .val (.int ie1), .val (.int ie2), .val (.int vp3), .val (.int vp4), .val (.int (0 : Int32)), .val (.int vn), .val (.int (0 : Int32)), .val (.int (1 : Int32)), .val (.int (2 : Int32)), .val (.ref b73), .val (.ref b80), .unset, .unset, .unset, .unset, .unset, .unset, .unset, .unset, .unset, .unset, .unset] [(.ref b85)])
    refine Go.step (fun _ k => XS.dup X89.here hx rfl (hb hby at_128) rfl rfl k) ?_
    refine Go.step (fun _ k => XS.iconst X89.here hx rfl (hb hby at_129) k) ?_
    refine Go.step (fun _ k => XS.dconst1 X89.here hx rfl (v := (4607182418800017408 : UInt64)) (hb hby at_130) (by decide +kernel) k) ?_
    obtain ⟨cl90, Ar90, q90, S90, M90, H90, G90⟩ := id (V89)
    have hin90 : ¬ ((2 : Int32) < 0 ∨ cl90.slots.size ≤ ((2 : Int32)).toNatClampNeg) := inb_of S90 ⟨by decide, by decide⟩
    obtain ⟨T90, h90, X90, e90, W90, st90⟩ := stD X89 hx hZ e89 Ar90 (j := (2 : Int32)) hin90 (g := (mkF m 131 #[.val (.int ish), .val (.int ind), .val (.int iln), .val (.int ie0), .val (.int ie1), .val (.int ie2), .val (.int vp3), .val (.int vp4), .val (.int (0 : Int32)), .val (.int vn), .val (.int (0 : Int32)), .val (.int (1 : Int32)), .val (.int (2 : Int32)), .val (.ref b73), .val (.ref b80), .unset, .unset, .unset, .unset, .unset, .unset, .unset, .unset, .unset, .unset, .unset] [(.double (4607182418800017408 : UInt64)), (.int (2 : Int32)), (.ref b85), (.ref b85)])) rfl rfl (hb hby at_131)
    refine Go.step st90 ?_
    have V90 : Arv Z h90 b85 k85 .double (5 : Int32) [(.double (0 : UInt64)), (.double (0 : UInt64)), (.double (4607182418800017408 : UInt64)), (.double (0 : UInt64)), (.double (0 : UInt64))] (.double (0 : UInt64)) := Arv.set Ar90 q90 S90 M90 H90 G90 rfl W90 2 rfl (Nat.le_of_ble_eq_true rfl)
    have N90 := Fr.snoc X90 N89 g_b85
    have Z90 : n0 ≤ h90.size := Nat.le_trans Z89 (Keep.of_wr W90).1
    show Go _ _ _ _ _ _ _ T90 (mkF m 132 #[.val (.int ish), .val (.int ind), .val (.int iln), .val (.int ie0), .val (.int ie1), .val (.int ie2), .val (.int vp3), .val (.int vp4), .val (.int (0 : Int32)), .val (.int vn), .val (.int (0 : Int32)), .val (.int (1 : Int32)), .val (.int (2 : Int32)), .val (.ref b73), .val (.ref b80), .unset, .unset, .unset, .unset, .unset, .unset, .unset, .unset, .unset, .unset, .unset] [(.ref b85)])
    refine Go.step (fun _ k => XS.dup X90.here hx rfl (hb hby at_132) rfl rfl k) ?_
    refine Go.step (fun _ k => XS.iconst X90.here hx rfl (hb hby at_133) k) ?_
    refine Go.step (X90.ldc2DoubleC hx hown (mvT hZ (hw _ (List.mem_of_getElem? (i := 7) rfl))) (g := (mkF m 134 #[.val (.int ish), .val (.int ind), .val (.int iln), .val (.int ie0), .val (.int ie1), .val (.int ie2), .val (.int vp3), .val (.int vp4), .val (.int (0 : Int32)), .val (.int vn), .val (.int (0 : Int32)), .val (.int (1 : Int32)), .val (.int (2 : Int32)), .val (.ref b73), .val (.ref b80), .unset, .unset, .unset, .unset, .unset, .unset, .unset, .unset, .unset, .unset, .unset] [(.int (3 : Int32)), (.ref b85), (.ref b85)])) rfl (hb hby at_134)) ?_
    show Go _ _ _ _ _ _ _ T90 (mkF m 137 #[.val (.int ish), .val (.int ind), .val (.int iln), .val (.int ie0), .val (.int ie1), .val (.int ie2), .val (.int vp3), .val (.int vp4), .val (.int (0 : Int32)), .val (.int vn), .val (.int (0 : Int32)), .val (.int (1 : Int32)), .val (.int (2 : Int32)), .val (.ref b73), .val (.ref b80), .unset, .unset, .unset, .unset, .unset, .unset, .unset, .unset, .unset, .unset, .unset] [(.double (4611686018427387904 : UInt64)), (.int (3 : Int32)), (.ref b85), (.ref b85)])
    obtain ⟨cl91, Ar91, q91, S91, M91, H91, G91⟩ := id (V90)
    have hin91 : ¬ ((3 : Int32) < 0 ∨ cl91.slots.size ≤ ((3 : Int32)).toNatClampNeg) := inb_of S91 ⟨by decide, by decide⟩
    obtain ⟨T91, h91, X91, e91, W91, st91⟩ := stD X90 hx hZ e90 Ar91 (j := (3 : Int32)) hin91 (g := (mkF m 137 #[.val (.int ish), .val (.int ind), .val (.int iln), .val (.int ie0), .val (.int ie1), .val (.int ie2), .val (.int vp3), .val (.int vp4), .val (.int (0 : Int32)), .val (.int vn), .val (.int (0 : Int32)), .val (.int (1 : Int32)), .val (.int (2 : Int32)), .val (.ref b73), .val (.ref b80), .unset, .unset, .unset, .unset, .unset, .unset, .unset, .unset, .unset, .unset, .unset] [(.double (4611686018427387904 : UInt64)), (.int (3 : Int32)), (.ref b85), (.ref b85)])) rfl rfl (hb hby at_137)
    refine Go.step st91 ?_
    have V91 : Arv Z h91 b85 k85 .double (5 : Int32) [(.double (0 : UInt64)), (.double (0 : UInt64)), (.double (4607182418800017408 : UInt64)), (.double (4611686018427387904 : UInt64)), (.double (0 : UInt64))] (.double (0 : UInt64)) := Arv.set Ar91 q91 S91 M91 H91 G91 rfl W91 3 rfl (Nat.le_of_ble_eq_true rfl)
    have N91 := Fr.snoc X91 N90 g_b85
    have Z91 : n0 ≤ h91.size := Nat.le_trans Z90 (Keep.of_wr W91).1
    show Go _ _ _ _ _ _ _ T91 (mkF m 138 #[.val (.int ish), .val (.int ind), .val (.int iln), .val (.int ie0), .val (.int ie1), .val (.int ie2), .val (.int vp3), .val (.int vp4), .val (.int (0 : Int32)), .val (.int vn), .val (.int (0 : Int32)), .val (.int (1 : Int32)), .val (.int (2 : Int32)), .val (.ref b73), .val (.ref b80), .unset, .unset, .unset, .unset, .unset, .unset, .unset, .unset, .unset, .unset, .unset] [(.ref b85)])
    refine Go.step (fun _ k => XS.dup X91.here hx rfl (hb hby at_138) rfl rfl k) ?_
    refine Go.step (fun _ k => XS.iconst X91.here hx rfl (hb hby at_139) k) ?_
    refine Go.step (X91.ldc2DoubleC hx hown (mvT hZ (hw _ (List.mem_of_getElem? (i := 8) rfl))) (g := (mkF m 140 #[.val (.int ish), .val (.int ind), .val (.int iln), .val (.int ie0), .val (.int ie1), .val (.int ie2), .val (.int vp3), .val (.int vp4), .val (.int (0 : Int32)), .val (.int vn), .val (.int (0 : Int32)), .val (.int (1 : Int32)), .val (.int (2 : Int32)), .val (.ref b73), .val (.ref b80), .unset, .unset, .unset, .unset, .unset, .unset, .unset, .unset, .unset, .unset, .unset] [(.int (4 : Int32)), (.ref b85), (.ref b85)])) rfl (hb hby at_140)) ?_
    show Go _ _ _ _ _ _ _ T91 (mkF m 143 #[.val (.int ish), .val (.int ind), .val (.int iln), .val (.int ie0), .val (.int ie1), .val (.int ie2), .val (.int vp3), .val (.int vp4), .val (.int (0 : Int32)), .val (.int vn), .val (.int (0 : Int32)), .val (.int (1 : Int32)), .val (.int (2 : Int32)), .val (.ref b73), .val (.ref b80), .unset, .unset, .unset, .unset, .unset, .unset, .unset, .unset, .unset, .unset, .unset] [(.double (4613937818241073152 : UInt64)), (.int (4 : Int32)), (.ref b85), (.ref b85)])
    obtain ⟨cl92, Ar92, q92, S92, M92, H92, G92⟩ := id (V91)
    have hin92 : ¬ ((4 : Int32) < 0 ∨ cl92.slots.size ≤ ((4 : Int32)).toNatClampNeg) := inb_of S92 ⟨by decide, by decide⟩
    obtain ⟨T92, h92, X92, e92, W92, st92⟩ := stD X91 hx hZ e91 Ar92 (j := (4 : Int32)) hin92 (g := (mkF m 143 #[.val (.int ish), .val (.int ind), .val (.int iln), .val (.int ie0), .val (.int ie1), .val (.int ie2), .val (.int vp3), .val (.int vp4), .val (.int (0 : Int32)), .val (.int vn), .val (.int (0 : Int32)), .val (.int (1 : Int32)), .val (.int (2 : Int32)), .val (.ref b73), .val (.ref b80), .unset, .unset, .unset, .unset, .unset, .unset, .unset, .unset, .unset, .unset, .unset] [(.double (4613937818241073152 : UInt64)), (.int (4 : Int32)), (.ref b85), (.ref b85)])) rfl rfl (hb hby at_143)
    refine Go.step st92 ?_
    have V92 : Arv Z h92 b85 k85 .double (5 : Int32) [(.double (0 : UInt64)), (.double (0 : UInt64)), (.double (4607182418800017408 : UInt64)), (.double (4611686018427387904 : UInt64)), (.double (4613937818241073152 : UInt64))] (.double (0 : UInt64)) := Arv.set Ar92 q92 S92 M92 H92 G92 rfl W92 4 rfl (Nat.le_of_ble_eq_true rfl)
    have N92 := Fr.snoc X92 N91 g_b85
    have Z92 : n0 ≤ h92.size := Nat.le_trans Z91 (Keep.of_wr W92).1
    show Go _ _ _ _ _ _ _ T92 (mkF m 144 #[.val (.int ish), .val (.int ind), .val (.int iln), .val (.int ie0), .val (.int ie1), .val (.int ie2), .val (.int vp3), .val (.int vp4), .val (.int (0 : Int32)), .val (.int vn), .val (.int (0 : Int32)), .val (.int (1 : Int32)), .val (.int (2 : Int32)), .val (.ref b73), .val (.ref b80), .unset, .unset, .unset, .unset, .unset, .unset, .unset, .unset, .unset, .unset, .unset] [(.ref b85)])
    refine Go.step (fun _ k => XS.astore X92.here hx rfl (hb hby at_144) rfl rfl (l' := #[.val (.int ish), .val (.int ind), .val (.int iln), .val (.int ie0), .val (.int ie1), .val (.int ie2), .val (.int vp3), .val (.int vp4), .val (.int (0 : Int32)), .val (.int vn), .val (.int (0 : Int32)), .val (.int (1 : Int32)), .val (.int (2 : Int32)), .val (.ref b73), .val (.ref b80), .val (.ref b85), .unset, .unset, .unset, .unset, .unset, .unset, .unset, .unset, .unset, .unset]) rfl k) ?_
    show Go _ _ _ _ _ _ _ T92 (mkF m 146 #[.val (.int ish), .val (.int ind), .val (.int iln), .val (.int ie0), .val (.int ie1), .val (.int ie2), .val (.int vp3), .val (.int vp4), .val (.int (0 : Int32)), .val (.int vn), .val (.int (0 : Int32)), .val (.int (1 : Int32)), .val (.int (2 : Int32)), .val (.ref b73), .val (.ref b80), .val (.ref b85), .unset, .unset, .unset, .unset, .unset, .unset, .unset, .unset, .unset, .unset] [])
    refine Go.step (fun _ k => XS.iconst X92.here hx rfl (hb hby at_146) k) ?_
    have f94 : Arv Z h92 b73 k73 .int (5 : Int32) [(.int (-1 : Int32)), (.int (-1 : Int32)), (.int (0 : Int32)), (.int (1 : Int32)), (.int (2 : Int32))] (.int (0 : Int32)) := ((((((f86.ext E85).other W88 ne_b73_b85).other W89 ne_b73_b85).other W90 ne_b73_b85).other W91 ne_b73_b85).other W92 ne_b73_b85)
    have f95 : Arv Z h92 b80 k80 .int (3 : Int32) [(.int (1 : Int32)), (.int vp3), (.int vp4)] (.int (0 : Int32)) := ((((((V84.ext E85).other W88 ne_b80_b85).other W89 ne_b80_b85).other W90 ne_b80_b85).other W91 ne_b80_b85).other W92 ne_b80_b85)
    obtain ⟨T93, h93, k93, X93, e93, E93, A93, st93⟩ := newP X92 hx hZ (hw _ (List.mem_of_getElem? (i := 5) rfl)) e92 (g := (mkF m 147 #[.val (.int ish), .val (.int ind), .val (.int iln), .val (.int ie0), .val (.int ie1), .val (.int ie2), .val (.int vp3), .val (.int vp4), .val (.int (0 : Int32)), .val (.int vn), .val (.int (0 : Int32)), .val (.int (1 : Int32)), .val (.int (2 : Int32)), .val (.ref b73), .val (.ref b80), .val (.ref b85), .unset, .unset, .unset, .unset, .unset, .unset, .unset, .unset, .unset, .unset] [(.int (4 : Int32))])) rfl (hb hby at_147) rfl (by decide) (cap := 4) (by decide) (by decide) (by decide) (by decide)
    obtain ⟨b93, g93⟩ : ∃ z, z = h92.size := ⟨_, rfl⟩
    rw [← g93] at A93 st93
    refine Go.step st93 ?_
    have g_b93 : n0 ≤ b93 := Nat.le_trans Z92 (Nat.le_of_eq g93.symm)
    have ne_b73_b93 : b73 ≠ b93 := Nat.ne_of_lt (Nat.lt_of_lt_of_le f94.lt (Nat.le_of_eq g93.symm))
    have ne_b80_b93 : b80 ≠ b93 := Nat.ne_of_lt (Nat.lt_of_lt_of_le f95.lt (Nat.le_of_eq g93.symm))
    have ne_b85_b93 : b85 ≠ b93 := Nat.ne_of_lt (Nat.lt_of_lt_of_le V92.lt (Nat.le_of_eq g93.symm))
    have Z93 : n0 ≤ h93.size := Nat.le_trans Z92 E93.1
    have V93 : Arv Z h93 b93 k93 .int (4 : Int32) [] (.int (0 : Int32)) := Arv.new A93 (by decide)
    have V96 : Arv Z h93 b93 k93 .int (4 : Int32) [(.int (0 : Int32)), (.int (0 : Int32)), (.int (0 : Int32)), (.int (0 : Int32))] (.int (0 : Int32)) := (V93).pad (pad_rep [] (.int (0 : Int32)) 4)
    show Go _ _ _ _ _ _ _ T93 (mkF m 149 #[.val (.int ish), .val (.int ind), .val (.int iln), .val (.int ie0), .val (.int ie1), .val (.int ie2), .val (.int vp3), .val (.int vp4), .val (.int (0 : Int32)), .val (.int vn), .val (.int (0 : Int32)), .val (.int (1 : Int32)), .val (.int (2 : Int32)), .val (.ref b73), .val (.ref b80), .val (.ref b85), .unset, .unset, .unset, .unset, .unset, .unset, .unset, .unset, .unset, .unset] [(.ref b93)])
    refine Go.step (fun _ k => XS.dup X93.here hx rfl (hb hby at_149) rfl rfl k) ?_
    refine Go.step (fun _ k => XS.iconst X93.here hx rfl (hb hby at_150) k) ?_
    refine Go.step (fun _ k => XS.iconst X93.here hx rfl (hb hby at_151) k) ?_
    obtain ⟨cl97, Ar97, q97, S97, M97, H97, G97⟩ := id (V96)
    have hin97 : ¬ ((0 : Int32) < 0 ∨ cl97.slots.size ≤ ((0 : Int32)).toNatClampNeg) := inb_of S97 ⟨by decide, by decide⟩
    obtain ⟨T97, h97, X97, e97, W97, st97⟩ := stI X93 hx hZ e93 Ar97 (j := (0 : Int32)) hin97 (g := (mkF m 152 #[.val (.int ish), .val (.int ind), .val (.int iln), .val (.int ie0), .val (.int ie1), .val (.int ie2), .val (.int vp3), .val (.int vp4), .val (.int (0 : Int32)), .val (.int vn), .val (.int (0 : Int32)), .val (.int (1 : Int32)), .val (.int (2 : Int32)), .val (.ref b73), .val (.ref b80), .val (.ref b85), .unset, .unset, .unset, .unset, .unset, .unset, .unset, .unset, .unset, .unset] [(.int (1 : Int32)), (.int (0 : Int32)), (.ref b93), (.ref b93)])) rfl rfl (hb hby at_152)
    refine Go.step st97 ?_
    have V97 : Arv Z h97 b93 k93 .int (4 : Int32) [(.int (1 : Int32)), (.int (0 : Int32)), (.int (0 : Int32)), (.int (0 : Int32))] (.int (0 : Int32)) := Arv.set Ar97 q97 S97 M97 H97 G97 rfl W97 0 rfl (Nat.le_of_ble_eq_true rfl)
    have N97 := Fr.snoc X97 N92 g_b93
    have Z97 : n0 ≤ h97.size := Nat.le_trans Z93 (Keep.of_wr W97).1
    show Go _ _ _ _ _ _ _ T97 (mkF m 153 #[.val (.int ish), .val (.int ind), .val (.int iln), .val (.int ie0), .val (.int ie1), .val (.int ie2), .val (.int vp3), .val (.int vp4), .val (.int (0 : Int32)), .val (.int vn), .val (.int (0 : Int32)), .val (.int (1 : Int32)), .val (.int (2 : Int32)), .val (.ref b73), .val (.ref b80), .val (.ref b85), .unset, .unset, .unset, .unset, .unset, .unset, .unset, .unset, .unset, .unset] [(.ref b93)])
    refine Go.step (fun _ k => XS.dup X97.here hx rfl (hb hby at_153) rfl rfl k) ?_
    refine Go.step (fun _ k => XS.iconst X97.here hx rfl (hb hby at_154) k) ?_
    refine Go.step (fun _ k => XS.iconst X97.here hx rfl (hb hby at_155) k) ?_
    obtain ⟨cl98, Ar98, q98, S98, M98, H98, G98⟩ := id (V97)
    have hin98 : ¬ ((1 : Int32) < 0 ∨ cl98.slots.size ≤ ((1 : Int32)).toNatClampNeg) := inb_of S98 ⟨by decide, by decide⟩
    obtain ⟨T98, h98, X98, e98, W98, st98⟩ := stI X97 hx hZ e97 Ar98 (j := (1 : Int32)) hin98 (g := (mkF m 156 #[.val (.int ish), .val (.int ind), .val (.int iln), .val (.int ie0), .val (.int ie1), .val (.int ie2), .val (.int vp3), .val (.int vp4), .val (.int (0 : Int32)), .val (.int vn), .val (.int (0 : Int32)), .val (.int (1 : Int32)), .val (.int (2 : Int32)), .val (.ref b73), .val (.ref b80), .val (.ref b85), .unset, .unset, .unset, .unset, .unset, .unset, .unset, .unset, .unset, .unset] [(.int (2 : Int32)), (.int (1 : Int32)), (.ref b93), (.ref b93)])) rfl rfl (hb hby at_156)
    refine Go.step st98 ?_
    have V98 : Arv Z h98 b93 k93 .int (4 : Int32) [(.int (1 : Int32)), (.int (2 : Int32)), (.int (0 : Int32)), (.int (0 : Int32))] (.int (0 : Int32)) := Arv.set Ar98 q98 S98 M98 H98 G98 rfl W98 1 rfl (Nat.le_of_ble_eq_true rfl)
    have N98 := Fr.snoc X98 N97 g_b93
    have Z98 : n0 ≤ h98.size := Nat.le_trans Z97 (Keep.of_wr W98).1
    show Go _ _ _ _ _ _ _ T98 (mkF m 157 #[.val (.int ish), .val (.int ind), .val (.int iln), .val (.int ie0), .val (.int ie1), .val (.int ie2), .val (.int vp3), .val (.int vp4), .val (.int (0 : Int32)), .val (.int vn), .val (.int (0 : Int32)), .val (.int (1 : Int32)), .val (.int (2 : Int32)), .val (.ref b73), .val (.ref b80), .val (.ref b85), .unset, .unset, .unset, .unset, .unset, .unset, .unset, .unset, .unset, .unset] [(.ref b93)])
    refine Go.step (fun _ k => XS.dup X98.here hx rfl (hb hby at_157) rfl rfl k) ?_
    refine Go.step (fun _ k => XS.iconst X98.here hx rfl (hb hby at_158) k) ?_
    refine Go.step (fun _ k => XS.iconst X98.here hx rfl (hb hby at_159) k) ?_
    obtain ⟨cl99, Ar99, q99, S99, M99, H99, G99⟩ := id (V98)
    have hin99 : ¬ ((2 : Int32) < 0 ∨ cl99.slots.size ≤ ((2 : Int32)).toNatClampNeg) := inb_of S99 ⟨by decide, by decide⟩
    obtain ⟨T99, h99, X99, e99, W99, st99⟩ := stI X98 hx hZ e98 Ar99 (j := (2 : Int32)) hin99 (g := (mkF m 160 #[.val (.int ish), .val (.int ind), .val (.int iln), .val (.int ie0), .val (.int ie1), .val (.int ie2), .val (.int vp3), .val (.int vp4), .val (.int (0 : Int32)), .val (.int vn), .val (.int (0 : Int32)), .val (.int (1 : Int32)), .val (.int (2 : Int32)), .val (.ref b73), .val (.ref b80), .val (.ref b85), .unset, .unset, .unset, .unset, .unset, .unset, .unset, .unset, .unset, .unset] [(.int (3 : Int32)), (.int (2 : Int32)), (.ref b93), (.ref b93)])) rfl rfl (hb hby at_160)
    refine Go.step st99 ?_
    have V99 : Arv Z h99 b93 k93 .int (4 : Int32) [(.int (1 : Int32)), (.int (2 : Int32)), (.int (3 : Int32)), (.int (0 : Int32))] (.int (0 : Int32)) := Arv.set Ar99 q99 S99 M99 H99 G99 rfl W99 2 rfl (Nat.le_of_ble_eq_true rfl)
    have N99 := Fr.snoc X99 N98 g_b93
    have Z99 : n0 ≤ h99.size := Nat.le_trans Z98 (Keep.of_wr W99).1
    show Go _ _ _ _ _ _ _ T99 (mkF m 161 #[.val (.int ish), .val (.int ind), .val (.int iln), .val (.int ie0), .val (.int ie1), .val (.int ie2), .val (.int vp3), .val (.int vp4), .val (.int (0 : Int32)), .val (.int vn), .val (.int (0 : Int32)), .val (.int (1 : Int32)), .val (.int (2 : Int32)), .val (.ref b73), .val (.ref b80), .val (.ref b85), .unset, .unset, .unset, .unset, .unset, .unset, .unset, .unset, .unset, .unset] [(.ref b93)])
    refine Go.step (fun _ k => XS.dup X99.here hx rfl (hb hby at_161) rfl rfl k) ?_
    refine Go.step (fun _ k => XS.iconst X99.here hx rfl (hb hby at_162) k) ?_
    refine Go.step (fun _ k => XS.iconst X99.here hx rfl (hb hby at_163) k) ?_
    obtain ⟨cl100, Ar100, q100, S100, M100, H100, G100⟩ := id (V99)
    have hin100 : ¬ ((3 : Int32) < 0 ∨ cl100.slots.size ≤ ((3 : Int32)).toNatClampNeg) := inb_of S100 ⟨by decide, by decide⟩
    obtain ⟨T100, h100, X100, e100, W100, st100⟩ := stI X99 hx hZ e99 Ar100 (j := (3 : Int32)) hin100 (g := (mkF m 164 #[.val (.int ish), .val (.int ind), .val (.int iln), .val (.int ie0), .val (.int ie1), .val (.int ie2), .val (.int vp3), .val (.int vp4), .val (.int (0 : Int32)), .val (.int vn), .val (.int (0 : Int32)), .val (.int (1 : Int32)), .val (.int (2 : Int32)), .val (.ref b73), .val (.ref b80), .val (.ref b85), .unset, .unset, .unset, .unset, .unset, .unset, .unset, .unset, .unset, .unset] [(.int (4 : Int32)), (.int (3 : Int32)), (.ref b93), (.ref b93)])) rfl rfl (hb hby at_164)
    refine Go.step st100 ?_
    have V100 : Arv Z h100 b93 k93 .int (4 : Int32) [(.int (1 : Int32)), (.int (2 : Int32)), (.int (3 : Int32)), (.int (4 : Int32))] (.int (0 : Int32)) := Arv.set Ar100 q100 S100 M100 H100 G100 rfl W100 3 rfl (Nat.le_of_ble_eq_true rfl)
    have N100 := Fr.snoc X100 N99 g_b93
    have Z100 : n0 ≤ h100.size := Nat.le_trans Z99 (Keep.of_wr W100).1
    show Go _ _ _ _ _ _ _ T100 (mkF m 165 #[.val (.int ish), .val (.int ind), .val (.int iln), .val (.int ie0), .val (.int ie1), .val (.int ie2), .val (.int vp3), .val (.int vp4), .val (.int (0 : Int32)), .val (.int vn), .val (.int (0 : Int32)), .val (.int (1 : Int32)), .val (.int (2 : Int32)), .val (.ref b73), .val (.ref b80), .val (.ref b85), .unset, .unset, .unset, .unset, .unset, .unset, .unset, .unset, .unset, .unset] [(.ref b93)])
    refine Go.step (fun _ k => XS.astore X100.here hx rfl (hb hby at_165) rfl rfl (l' := #[.val (.int ish), .val (.int ind), .val (.int iln), .val (.int ie0), .val (.int ie1), .val (.int ie2), .val (.int vp3), .val (.int vp4), .val (.int (0 : Int32)), .val (.int vn), .val (.int (0 : Int32)), .val (.int (1 : Int32)), .val (.int (2 : Int32)), .val (.ref b73), .val (.ref b80), .val (.ref b85), .val (.ref b93), .unset, .unset, .unset, .unset, .unset, .unset, .unset, .unset, .unset]) rfl k) ?_
    show Go _ _ _ _ _ _ _ T100 (mkF m 167 #[.val (.int ish), .val (.int ind), .val (.int iln), .val (.int ie0), .val (.int ie1), .val (.int ie2), .val (.int vp3), .val (.int vp4), .val (.int (0 : Int32)), .val (.int vn), .val (.int (0 : Int32)), .val (.int (1 : Int32)), .val (.int (2 : Int32)), .val (.ref b73), .val (.ref b80), .val (.ref b85), .val (.ref b93), .unset, .unset, .unset, .unset, .unset, .unset, .unset, .unset, .unset] [])
    have f102 : Arv Z h100 b73 k73 .int (5 : Int32) [(.int (-1 : Int32)), (.int (-1 : Int32)), (.int (0 : Int32)), (.int (1 : Int32)), (.int (2 : Int32))] (.int (0 : Int32)) := (((((f94.ext E93).other W97 ne_b73_b93).other W98 ne_b73_b93).other W99 ne_b73_b93).other W100 ne_b73_b93)
    have f103 : Arv Z h100 b80 k80 .int (3 : Int32) [(.int (1 : Int32)), (.int vp3), (.int vp4)] (.int (0 : Int32)) := (((((f95.ext E93).other W97 ne_b80_b93).other W98 ne_b80_b93).other W99 ne_b80_b93).other W100 ne_b80_b93)
    have f104 : Arv Z h100 b85 k85 .double (5 : Int32) [(.double (0 : UInt64)), (.double (0 : UInt64)), (.double (4607182418800017408 : UInt64)), (.double (4611686018427387904 : UInt64)), (.double (4613937818241073152 : UInt64))] (.double (0 : UInt64)) := (((((V92.ext E93).other W97 ne_b85_b93).other W98 ne_b85_b93).other W99 ne_b85_b93).other W100 ne_b85_b93)
    obtain ⟨T101, h101, X101, e101, E101, A101, D101, -, st101⟩ := newO X100 hx hZ hown (hw _ (List.mem_of_getElem? (i := 9) rfl)) (hw _ (List.mem_of_getElem? (i := 10) rfl)) (hw _ (List.mem_of_getElem? (i := 11) rfl)) e100 (g := (mkF m 167 #[.val (.int ish), .val (.int ind), .val (.int iln), .val (.int ie0), .val (.int ie1), .val (.int ie2), .val (.int vp3), .val (.int vp4), .val (.int (0 : Int32)), .val (.int vn), .val (.int (0 : Int32)), .val (.int (1 : Int32)), .val (.int (2 : Int32)), .val (.ref b73), .val (.ref b80), .val (.ref b85), .val (.ref b93), .unset, .unset, .unset, .unset, .unset, .unset, .unset, .unset, .unset] [])) rfl (hb hby at_167) (by decide) (by decide)
    obtain ⟨b101, g101⟩ : ∃ z, z = h100.size := ⟨_, rfl⟩
    rw [← g101] at A101 D101 st101
    refine Go.step st101 ?_
    have g_b101 : n0 ≤ b101 := Nat.le_trans Z100 (Nat.le_of_eq g101.symm)
    have ne_b73_b101 : b73 ≠ b101 := Nat.ne_of_lt (Nat.lt_of_lt_of_le f102.lt (Nat.le_of_eq g101.symm))
    have ne_b80_b101 : b80 ≠ b101 := Nat.ne_of_lt (Nat.lt_of_lt_of_le f103.lt (Nat.le_of_eq g101.symm))
    have ne_b85_b101 : b85 ≠ b101 := Nat.ne_of_lt (Nat.lt_of_lt_of_le f104.lt (Nat.le_of_eq g101.symm))
    have ne_b93_b101 : b93 ≠ b101 := Nat.ne_of_lt (Nat.lt_of_lt_of_le V100.lt (Nat.le_of_eq g101.symm))
    have Z101 : n0 ≤ h101.size := Nat.le_trans Z100 E101.1
    have Forigin_101 : Fld Z h101 b101 "com/example/wayfront/wayfront/paths/ShortestPathTree" "origin" "I" (.int (0 : Int32)) := D101 (Or.inr (hw _ (List.mem_of_getElem? (i := 19) rfl))) (ty := .int) (by decide)
    have Fdistance_101 : Fld Z h101 b101 "com/example/wayfront/wayfront/paths/ShortestPathTree" "distance" "[D" .null := D101 (Or.inr (hw _ (List.mem_of_getElem? (i := 21) rfl))) (ty := (.array .double)) (by decide)
    have Fpredecessor_101 : Fld Z h101 b101 "com/example/wayfront/wayfront/paths/ShortestPathTree" "predecessor" "[I" .null := D101 (Or.inr (hw _ (List.mem_of_getElem? (i := 23) rfl))) (ty := (.array .int)) (by decide)
    have Forder_101 : Fld Z h101 b101 "com/example/wayfront/wayfront/paths/ShortestPathTree" "order" "[I" .null := D101 (Or.inr (hw _ (List.mem_of_getElem? (i := 25) rfl))) (ty := (.array .int)) (by decide)
    have Ftail_101 : Fld Z h101 b101 "com/example/wayfront/wayfront/paths/ShortestPathTree" "tail" "[I" .null := D101 (Or.inr (hw _ (List.mem_of_getElem? (i := 27) rfl))) (ty := (.array .int)) (by decide)
    show Go _ _ _ _ _ _ _ T101 (mkF m 170 #[.val (.int ish), .val (.int ind), .val (.int iln), .val (.int ie0), .val (.int ie1), .val (.int ie2), .val (.int vp3), .val (.int vp4), .val (.int (0 : Int32)), .val (.int vn), .val (.int (0 : Int32)), .val (.int (1 : Int32)), .val (.int (2 : Int32)), .val (.ref b73), .val (.ref b80), .val (.ref b85), .val (.ref b93), .unset, .unset, .unset, .unset, .unset, .unset, .unset, .unset, .unset] [(.ref b101)])
    refine Go.step (fun _ k => XS.dup X101.here hx rfl (hb hby at_170) rfl rfl k) ?_
    refine Go.step (fun _ k => XS.iconst X101.here hx rfl (hb hby at_171) k) ?_
    refine Go.step (fun _ k => XS.aload X101.here hx rfl (hb hby at_172) rfl rfl k) ?_
    refine Go.step (fun _ k => XS.aload X101.here hx rfl (hb hby at_174) rfl rfl k) ?_
    refine Go.step (fun _ k => XS.aload X101.here hx rfl (hb hby at_176) rfl rfl k) ?_
    refine Go.step (fun _ k => XS.aload X101.here hx rfl (hb hby at_178) rfl rfl k) ?_
    obtain ⟨_, _, ⟨T105, L105, k105, n105⟩, -, X105, ⟨Lc105, hQ105, l105, y105, z105⟩, st105⟩ := X101.specialBack hx (y := (⟨"com/example/wayfront/wayfront/paths/ShortestPathTree", "<init>", "(I[D[I[I[I)V"⟩ : MethodName)) rfl hown (mvT hZ (hw _ (List.mem_of_getElem? (i := 12) rfl))) (mvT hZ (hw _ (List.mem_of_getElem? (i := 13) rfl))) (mvT hZ (hw _ (List.mem_of_getElem? (i := 14) rfl))) (by decide) (backOf (W := 1) (rmIn l Z a0 hw [] b101 (1 : Int32) b85 b73 b93 b80 h101 n0 Z101 A101 g_b101 Forigin_101 Fdistance_101 Fpredecessor_101 Forder_101 Ftail_101) hZ (hw _ (List.mem_of_getElem? (i := 14) rfl)) (hw _ (List.mem_of_getElem? (i := 11) rfl)) (by decide) (by decide)) (g := (mkF m 180 #[.val (.int ish), .val (.int ind), .val (.int iln), .val (.int ie0), .val (.int ie1), .val (.int ie2), .val (.int vp3), .val (.int vp4), .val (.int (0 : Int32)), .val (.int vn), .val (.int (0 : Int32)), .val (.int (1 : Int32)), .val (.int (2 : Int32)), .val (.ref b73), .val (.ref b80), .val (.ref b85), .val (.ref b93), .unset, .unset, .unset, .unset, .unset, .unset, .unset, .unset, .unset] [(.ref b80), (.ref b93), (.ref b73), (.ref b85), (.int (1 : Int32)), (.ref b101), (.ref b101)])) rfl (by rw [hml]; rfl) (Steps.refl _) (a := b101) (argsL := [(.int (1 : Int32)), (.ref b85), (.ref b73), (.ref b93), (.ref b80)]) (rest := [(.ref b101)]) (lenOf pd__I_D_I_I_I_V rfl) rfl (by show 2 * 0 + _ ≤ _; exact Nat.le_of_eq rfl) (hb hby at_180) (fun _ _ => ⟨rfl, e101, (by decide : 5 + 0 ≤ _), (by decide : 22 + 0 ≤ _)⟩)
    dsimp only [Pt.U, Pt.locs, Pt.cells, Pt.slots] at X105 l105 y105 z105 st105 hQ105
    subst l105 y105 z105
    obtain ⟨h105, e105⟩ : ∃ h, T105.heap = h := ⟨_, rfl⟩
    rw [e105] at hQ105
    obtain ⟨rfl, Nq105, Kq105, E1_105, Fp_105, Ft_105⟩ := hQ105
    have N105 := Fr.app N100 Nq105
    have Z105 : n0 ≤ h105.size := Nat.le_trans Z101 Kq105.1
    refine Go.trans st105 ?_
    show Go _ _ _ _ _ _ _ T105 (mkF m 183 #[.val (.int ish), .val (.int ind), .val (.int iln), .val (.int ie0), .val (.int ie1), .val (.int ie2), .val (.int vp3), .val (.int vp4), .val (.int (0 : Int32)), .val (.int vn), .val (.int (0 : Int32)), .val (.int (1 : Int32)), .val (.int (2 : Int32)), .val (.ref b73), .val (.ref b80), .val (.ref b85), .val (.ref b93), .unset, .unset, .unset, .unset, .unset, .unset, .unset, .unset, .unset] [(.ref b101)])
    refine Go.step (fun _ k => XS.astore X105.here hx rfl (hb hby at_183) rfl rfl (l' := #[.val (.int ish), .val (.int ind), .val (.int iln), .val (.int ie0), .val (.int ie1), .val (.int ie2), .val (.int vp3), .val (.int vp4), .val (.int (0 : Int32)), .val (.int vn), .val (.int (0 : Int32)), .val (.int (1 : Int32)), .val (.int (2 : Int32)), .val (.ref b73), .val (.ref b80), .val (.ref b85), .val (.ref b93), .val (.ref b101), .unset, .unset, .unset, .unset, .unset, .unset, .unset, .unset]) rfl k) ?_
    show Go _ _ _ _ _ _ _ T105 (mkF m 185 #[.val (.int ish), .val (.int ind), .val (.int iln), .val (.int ie0), .val (.int ie1), .val (.int ie2), .val (.int vp3), .val (.int vp4), .val (.int (0 : Int32)), .val (.int vn), .val (.int (0 : Int32)), .val (.int (1 : Int32)), .val (.int (2 : Int32)), .val (.ref b73), .val (.ref b80), .val (.ref b85), .val (.ref b93), .val (.ref b101), .unset, .unset, .unset, .unset, .unset, .unset, .unset, .unset] [])
    have J : ∀ (TJ : State) (hJ : Heap) (LJ : List Loc) (a18 : Addr) (k18 : ClassId) (n18 : Int32) (le : List Int32) (ls0 : List Int32), (Stand p l e room_1 s m #[(.int ish), (.int ind), (.int iln), (.int ie0), (.int ie1), (.int ie2)] below meth c TJ LJ 6 25) → (TJ.heap = hJ) → (Fr n0 LJ) → (n0 ≤ hJ.size) → (Exa Z hJ b101 "com/example/wayfront/wayfront/paths/ShortestPathTree") → (Fld Z hJ b101 "com/example/wayfront/wayfront/paths/ShortestPathTree" "predecessor" "[I" (.ref b73)) → (Fld Z hJ b101 "com/example/wayfront/wayfront/paths/ShortestPathTree" "tail" "[I" (.ref b80)) → (Arv Z hJ b73 k73 .int (5 : Int32) [(.int (-1 : Int32)), (.int (-1 : Int32)), (.int (0 : Int32)), (.int (1 : Int32)), (.int (2 : Int32))] (.int (0 : Int32))) → (Arv Z hJ b80 k80 .int (3 : Int32) [(.int (1 : Int32)), (.int vp3), (.int vp4)] (.int (0 : Int32))) → (Arv Z hJ a18 k18 .int n18 (le.map Value.int) (.int (0 : Int32))) → (le.length = n18.toNatClampNeg) → (¬ n18 < 0) → (le.length ≤ 4) → (le = ls0.reverse) → (own_Ch ([(-1 : Int32), (-1 : Int32), (0 : Int32), (1 : Int32), (2 : Int32)] : List Int32) ([(1 : Int32), vp3, vp4] : List Int32) vn ls0) → Go p e below s room_1.cells room_1.slots (Q_rm0 Z ish ind iln ie0 ie1 ie2 h0 n0) TJ (mkF m 348 #[.val (.int ish), .val (.int ind), .val (.int iln), .val (.int ie0), .val (.int ie1), .val (.int ie2), .val (.int vp3), .val (.int vp4), .val (.int (0 : Int32)), .val (.int vn), .val (.int (0 : Int32)), .val (.int (1 : Int32)), .val (.int (2 : Int32)), .val (.ref b73), .val (.ref b80), .val (.ref b85), .val (.ref b93), .val (.ref b101), .val (.ref a18), .unset, .unset, .unset, .unset, .unset, .unset, .unset] []) := by
      intro TJ hJ LJ a18 k18 n18 le ls0 XJ eJ NJ ZJ Ej Fpj Ftj Vpj Vtj V8j hle hn8 h48 hrv hchj
      refine Go.step (fun _ k => XS.iloadN XJ.here hx rfl (hb hby at_348) rfl k) ?_
      refine Go.step (XJ.ldcInt hx hown (mvT hZ (hw _ (List.mem_of_getElem? (i := 0) rfl))) (g := (mkF m 349 #[.val (.int ish), .val (.int ind), .val (.int iln), .val (.int ie0), .val (.int ie1), .val (.int ie2), .val (.int vp3), .val (.int vp4), .val (.int (0 : Int32)), .val (.int vn), .val (.int (0 : Int32)), .val (.int (1 : Int32)), .val (.int (2 : Int32)), .val (.ref b73), .val (.ref b80), .val (.ref b85), .val (.ref b93), .val (.ref b101), .val (.ref a18), .unset, .unset, .unset, .unset, .unset, .unset, .unset] [(.int iln)])) rfl (hb hby at_349)) ?_
      refine Go.step (fun _ k => XS.iand XJ.here hx rfl (hb hby at_351) rfl k) ?_
      refine Go.step (fun _ k => XS.iconst XJ.here hx rfl (hb hby at_352) k) ?_
      refine Go.step (fun _ k => iremM XJ hx rfl (hb hby at_353) rfl (by decide) k) ?_
      refine Go.step (fun _ k => XS.istore XJ.here hx rfl (hb hby at_354) rfl (l' := #[.val (.int ish), .val (.int ind), .val (.int iln), .val (.int ie0), .val (.int ie1), .val (.int ie2), .val (.int vp3), .val (.int vp4), .val (.int (0 : Int32)), .val (.int vn), .val (.int (0 : Int32)), .val (.int (1 : Int32)), .val (.int (2 : Int32)), .val (.ref b73), .val (.ref b80), .val (.ref b85), .val (.ref b93), .val (.ref b101), .val (.ref a18), .val (.int ((iln &&& (2147483647 : Int32)) % (5 : Int32))), .unset, .unset, .unset, .unset, .unset, .unset]) rfl k) ?_
      show Go _ _ _ _ _ _ _ TJ (mkF m 356 #[.val (.int ish), .val (.int ind), .val (.int iln), .val (.int ie0), .val (.int ie1), .val (.int ie2), .val (.int vp3), .val (.int vp4), .val (.int (0 : Int32)), .val (.int vn), .val (.int (0 : Int32)), .val (.int (1 : Int32)), .val (.int (2 : Int32)), .val (.ref b73), .val (.ref b80), .val (.ref b85), .val (.ref b93), .val (.ref b101), .val (.ref a18), .val (.int ((iln &&& (2147483647 : Int32)) % (5 : Int32))), .unset, .unset, .unset, .unset, .unset, .unset] [])
      have b_vl5 : 0 ≤ ((iln &&& (2147483647 : Int32)) % (5 : Int32)).toInt ∧ ((iln &&& (2147483647 : Int32)) % (5 : Int32)).toInt ≤ 4 := (own_ar20 iln)
      generalize ((iln &&& (2147483647 : Int32)) % (5 : Int32)) = vl5 at b_vl5 ⊢
      show Go _ _ _ _ _ _ _ TJ (mkF m 356 #[.val (.int ish), .val (.int ind), .val (.int iln), .val (.int ie0), .val (.int ie1), .val (.int ie2), .val (.int vp3), .val (.int vp4), .val (.int (0 : Int32)), .val (.int vn), .val (.int (0 : Int32)), .val (.int (1 : Int32)), .val (.int (2 : Int32)), .val (.ref b73), .val (.ref b80), .val (.ref b85), .val (.ref b93), .val (.ref b101), .val (.ref a18), .val (.int vl5), .unset, .unset, .unset, .unset, .unset, .unset] [])
      refine Go.step (fun _ k => XS.iloadN XJ.here hx rfl (hb hby at_356) rfl k) ?_
      refine Go.step (XJ.ldcInt hx hown (mvT hZ (hw _ (List.mem_of_getElem? (i := 0) rfl))) (g := (mkF m 357 #[.val (.int ish), .val (.int ind), .val (.int iln), .val (.int ie0), .val (.int ie1), .val (.int ie2), .val (.int vp3), .val (.int vp4), .val (.int (0 : Int32)), .val (.int vn), .val (.int (0 : Int32)), .val (.int (1 : Int32)), .val (.int (2 : Int32)), .val (.ref b73), .val (.ref b80), .val (.ref b85), .val (.ref b93), .val (.ref b101), .val (.ref a18), .val (.int vl5), .unset, .unset, .unset, .unset, .unset, .unset] [(.int ie0)])) rfl (hb hby at_357)) ?_
      refine Go.step (fun _ k => XS.iand XJ.here hx rfl (hb hby at_359) rfl k) ?_
      refine Go.step (fun _ k => XS.iconst XJ.here hx rfl (hb hby at_360) k) ?_
      refine Go.step (fun _ k => iremM XJ hx rfl (hb hby at_361) rfl (by decide) k) ?_
      refine Go.step (fun _ k => XS.istore XJ.here hx rfl (hb hby at_362) rfl (l' := #[.val (.int ish), .val (.int ind), .val (.int iln), .val (.int ie0), .val (.int ie1), .val (.int ie2), .val (.int vp3), .val (.int vp4), .val (.int (0 : Int32)), .val (.int vn), .val (.int (0 : Int32)), .val (.int (1 : Int32)), .val (.int (2 : Int32)), .val (.ref b73), .val (.ref b80), .val (.ref b85), .val (.ref b93), .val (.ref b101), .val (.ref a18), .val (.int vl5), .val (.int ((ie0 &&& (2147483647 : Int32)) % (4 : Int32))), .unset, .unset, .unset, .unset, .unset]) rfl k) ?_
      show Go _ _ _ _ _ _ _ TJ (mkF m 364 #[.val (.int ish), .val (.int ind), .val (.int iln), .val (.int ie0), .val (.int ie1), .val (.int ie2), .val (.int vp3), .val (.int vp4), .val (.int (0 : Int32)), .val (.int vn), .val (.int (0 : Int32)), .val (.int (1 : Int32)), .val (.int (2 : Int32)), .val (.ref b73), .val (.ref b80), .val (.ref b85), .val (.ref b93), .val (.ref b101), .val (.ref a18), .val (.int vl5), .val (.int ((ie0 &&& (2147483647 : Int32)) % (4 : Int32))), .unset, .unset, .unset, .unset, .unset] [])
      generalize ((ie0 &&& (2147483647 : Int32)) % (4 : Int32)) = c0
      show Go _ _ _ _ _ _ _ TJ (mkF m 364 #[.val (.int ish), .val (.int ind), .val (.int iln), .val (.int ie0), .val (.int ie1), .val (.int ie2), .val (.int vp3), .val (.int vp4), .val (.int (0 : Int32)), .val (.int vn), .val (.int (0 : Int32)), .val (.int (1 : Int32)), .val (.int (2 : Int32)), .val (.ref b73), .val (.ref b80), .val (.ref b85), .val (.ref b93), .val (.ref b101), .val (.ref a18), .val (.int vl5), .val (.int c0), .unset, .unset, .unset, .unset, .unset] [])
      refine Go.step (fun _ k => XS.iload XJ.here hx rfl (hb hby at_364) rfl k) ?_
      refine Go.step (XJ.ldcInt hx hown (mvT hZ (hw _ (List.mem_of_getElem? (i := 0) rfl))) (g := (mkF m 366 #[.val (.int ish), .val (.int ind), .val (.int iln), .val (.int ie0), .val (.int ie1), .val (.int ie2), .val (.int vp3), .val (.int vp4), .val (.int (0 : Int32)), .val (.int vn), .val (.int (0 : Int32)), .val (.int (1 : Int32)), .val (.int (2 : Int32)), .val (.ref b73), .val (.ref b80), .val (.ref b85), .val (.ref b93), .val (.ref b101), .val (.ref a18), .val (.int vl5), .val (.int c0), .unset, .unset, .unset, .unset, .unset] [(.int ie1)])) rfl (hb hby at_366)) ?_
      refine Go.step (fun _ k => XS.iand XJ.here hx rfl (hb hby at_368) rfl k) ?_
      refine Go.step (fun _ k => XS.iconst XJ.here hx rfl (hb hby at_369) k) ?_
      refine Go.step (fun _ k => iremM XJ hx rfl (hb hby at_370) rfl (by decide) k) ?_
      refine Go.step (fun _ k => XS.istore XJ.here hx rfl (hb hby at_371) rfl (l' := #[.val (.int ish), .val (.int ind), .val (.int iln), .val (.int ie0), .val (.int ie1), .val (.int ie2), .val (.int vp3), .val (.int vp4), .val (.int (0 : Int32)), .val (.int vn), .val (.int (0 : Int32)), .val (.int (1 : Int32)), .val (.int (2 : Int32)), .val (.ref b73), .val (.ref b80), .val (.ref b85), .val (.ref b93), .val (.ref b101), .val (.ref a18), .val (.int vl5), .val (.int c0), .val (.int ((ie1 &&& (2147483647 : Int32)) % (4 : Int32))), .unset, .unset, .unset, .unset]) rfl k) ?_
      show Go _ _ _ _ _ _ _ TJ (mkF m 373 #[.val (.int ish), .val (.int ind), .val (.int iln), .val (.int ie0), .val (.int ie1), .val (.int ie2), .val (.int vp3), .val (.int vp4), .val (.int (0 : Int32)), .val (.int vn), .val (.int (0 : Int32)), .val (.int (1 : Int32)), .val (.int (2 : Int32)), .val (.ref b73), .val (.ref b80), .val (.ref b85), .val (.ref b93), .val (.ref b101), .val (.ref a18), .val (.int vl5), .val (.int c0), .val (.int ((ie1 &&& (2147483647 : Int32)) % (4 : Int32))), .unset, .unset, .unset, .unset] [])
      generalize ((ie1 &&& (2147483647 : Int32)) % (4 : Int32)) = c1
      show Go _ _ _ _ _ _ _ TJ (mkF m 373 #[.val (.int ish), .val (.int ind), .val (.int iln), .val (.int ie0), .val (.int ie1), .val (.int ie2), .val (.int vp3), .val (.int vp4), .val (.int (0 : Int32)), .val (.int vn), .val (.int (0 : Int32)), .val (.int (1 : Int32)), .val (.int (2 : Int32)), .val (.ref b73), .val (.ref b80), .val (.ref b85), .val (.ref b93), .val (.ref b101), .val (.ref a18), .val (.int vl5), .val (.int c0), .val (.int c1), .unset, .unset, .unset, .unset] [])
      refine Go.step (fun _ k => XS.iload XJ.here hx rfl (hb hby at_373) rfl k) ?_
      refine Go.step (XJ.ldcInt hx hown (mvT hZ (hw _ (List.mem_of_getElem? (i := 0) rfl))) (g := (mkF m 375 #[.val (.int ish), .val (.int ind), .val (.int iln), .val (.int ie0), .val (.int ie1), .val (.int ie2), .val (.int vp3), .val (.int vp4), .val (.int (0 : Int32)), .val (.int vn), .val (.int (0 : Int32)), .val (.int (1 : Int32)), .val (.int (2 : Int32)), .val (.ref b73), .val (.ref b80), .val (.ref b85), .val (.ref b93), .val (.ref b101), .val (.ref a18), .val (.int vl5), .val (.int c0), .val (.int c1), .unset, .unset, .unset, .unset] [(.int ie2)])) rfl (hb hby at_375)) ?_
      refine Go.step (fun _ k => XS.iand XJ.here hx rfl (hb hby at_377) rfl k) ?_
      refine Go.step (fun _ k => XS.iconst XJ.here hx rfl (hb hby at_378) k) ?_
      refine Go.step (fun _ k => iremM XJ hx rfl (hb hby at_379) rfl (by decide) k) ?_
      refine Go.step (fun _ k => XS.istore XJ.here hx rfl (hb hby at_380) rfl (l' := #[.val (.int ish), .val (.int ind), .val (.int iln), .val (.int ie0), .val (.int ie1), .val (.int ie2), .val (.int vp3), .val (.int vp4), .val (.int (0 : Int32)), .val (.int vn), .val (.int (0 : Int32)), .val (.int (1 : Int32)), .val (.int (2 : Int32)), .val (.ref b73), .val (.ref b80), .val (.ref b85), .val (.ref b93), .val (.ref b101), .val (.ref a18), .val (.int vl5), .val (.int c0), .val (.int c1), .val (.int ((ie2 &&& (2147483647 : Int32)) % (4 : Int32))), .unset, .unset, .unset]) rfl k) ?_
      show Go _ _ _ _ _ _ _ TJ (mkF m 382 #[.val (.int ish), .val (.int ind), .val (.int iln), .val (.int ie0), .val (.int ie1), .val (.int ie2), .val (.int vp3), .val (.int vp4), .val (.int (0 : Int32)), .val (.int vn), .val (.int (0 : Int32)), .val (.int (1 : Int32)), .val (.int (2 : Int32)), .val (.ref b73), .val (.ref b80), .val (.ref b85), .val (.ref b93), .val (.ref b101), .val (.ref a18), .val (.int vl5), .val (.int c0), .val (.int c1), .val (.int ((ie2 &&& (2147483647 : Int32)) % (4 : Int32))), .unset, .unset, .unset] [])
      generalize ((ie2 &&& (2147483647 : Int32)) % (4 : Int32)) = c2
      show Go _ _ _ _ _ _ _ TJ (mkF m 382 #[.val (.int ish), .val (.int ind), .val (.int iln), .val (.int ie0), .val (.int ie1), .val (.int ie2), .val (.int vp3), .val (.int vp4), .val (.int (0 : Int32)), .val (.int vn), .val (.int (0 : Int32)), .val (.int (1 : Int32)), .val (.int (2 : Int32)), .val (.ref b73), .val (.ref b80), .val (.ref b85), .val (.ref b93), .val (.ref b101), .val (.ref a18), .val (.int vl5), .val (.int c0), .val (.int c1), .val (.int c2), .unset, .unset, .unset] [])
      refine Go.step (fun _ k => XS.iloadN XJ.here hx rfl (hb hby at_382) rfl k) ?_
      refine Go.step (fun _ k => XS.bipush XJ.here hx rfl (hb hby at_383) k) ?_
      refine Go.step (fun _ k => XS.iushr XJ.here hx rfl (hb hby at_385) rfl k) ?_
      show Go _ _ _ _ _ _ _ TJ (mkF m 386 #[.val (.int ish), .val (.int ind), .val (.int iln), .val (.int ie0), .val (.int ie1), .val (.int ie2), .val (.int vp3), .val (.int vp4), .val (.int (0 : Int32)), .val (.int vn), .val (.int (0 : Int32)), .val (.int (1 : Int32)), .val (.int (2 : Int32)), .val (.ref b73), .val (.ref b80), .val (.ref b85), .val (.ref b93), .val (.ref b101), .val (.ref a18), .val (.int vl5), .val (.int c0), .val (.int c1), .val (.int c2), .unset, .unset, .unset] [(.int ((ie0.toUInt32 >>> ((8 : Int32) &&& 31).toUInt32).toInt32))])
      refine Go.step (fun _ k => XS.iconst XJ.here hx rfl (hb hby at_386) k) ?_
      refine Go.step (fun _ k => XS.iand XJ.here hx rfl (hb hby at_387) rfl k) ?_
      refine Go.step (fun _ k => XS.istore XJ.here hx rfl (hb hby at_388) rfl (l' := #[.val (.int ish), .val (.int ind), .val (.int iln), .val (.int ie0), .val (.int ie1), .val (.int ie2), .val (.int vp3), .val (.int vp4), .val (.int (0 : Int32)), .val (.int vn), .val (.int (0 : Int32)), .val (.int (1 : Int32)), .val (.int (2 : Int32)), .val (.ref b73), .val (.ref b80), .val (.ref b85), .val (.ref b93), .val (.ref b101), .val (.ref a18), .val (.int vl5), .val (.int c0), .val (.int c1), .val (.int c2), .val (.int (((ie0.toUInt32 >>> ((8 : Int32) &&& 31).toUInt32).toInt32) &&& (3 : Int32))), .unset, .unset]) rfl k) ?_
      show Go _ _ _ _ _ _ _ TJ (mkF m 390 #[.val (.int ish), .val (.int ind), .val (.int iln), .val (.int ie0), .val (.int ie1), .val (.int ie2), .val (.int vp3), .val (.int vp4), .val (.int (0 : Int32)), .val (.int vn), .val (.int (0 : Int32)), .val (.int (1 : Int32)), .val (.int (2 : Int32)), .val (.ref b73), .val (.ref b80), .val (.ref b85), .val (.ref b93), .val (.ref b101), .val (.ref a18), .val (.int vl5), .val (.int c0), .val (.int c1), .val (.int c2), .val (.int (((ie0.toUInt32 >>> ((8 : Int32) &&& 31).toUInt32).toInt32) &&& (3 : Int32))), .unset, .unset] [])
      generalize (((ie0.toUInt32 >>> ((8 : Int32) &&& 31).toUInt32).toInt32) &&& (3 : Int32)) = c3
      show Go _ _ _ _ _ _ _ TJ (mkF m 390 #[.val (.int ish), .val (.int ind), .val (.int iln), .val (.int ie0), .val (.int ie1), .val (.int ie2), .val (.int vp3), .val (.int vp4), .val (.int (0 : Int32)), .val (.int vn), .val (.int (0 : Int32)), .val (.int (1 : Int32)), .val (.int (2 : Int32)), .val (.ref b73), .val (.ref b80), .val (.ref b85), .val (.ref b93), .val (.ref b101), .val (.ref a18), .val (.int vl5), .val (.int c0), .val (.int c1), .val (.int c2), .val (.int c3), .unset, .unset] [])
      rcases own_k5 vl5 ⟨b_vl5.1, Int.lt_of_le_of_lt b_vl5.2 (by decide)⟩ with rfl | rfl | rfl | rfl | rfl
      · show Go _ _ _ _ _ _ _ TJ (mkF m 390 #[.val (.int ish), .val (.int ind), .val (.int iln), .val (.int ie0), .val (.int ie1), .val (.int ie2), .val (.int vp3), .val (.int vp4), .val (.int (0 : Int32)), .val (.int vn), .val (.int (0 : Int32)), .val (.int (1 : Int32)), .val (.int (2 : Int32)), .val (.ref b73), .val (.ref b80), .val (.ref b85), .val (.ref b93), .val (.ref b101), .val (.ref a18), .val (.int (0 : Int32)), .val (.int c0), .val (.int c1), .val (.int c2), .val (.int c3), .unset, .unset] [])
        refine Go.step (fun _ k => XS.iload XJ.here hx rfl (hb hby at_390) rfl k) ?_
        obtain ⟨T106, h106, k106, X106, e106, E106, A106, st106⟩ := newP XJ hx hZ (hw _ (List.mem_of_getElem? (i := 5) rfl)) eJ (g := (mkF m 392 #[.val (.int ish), .val (.int ind), .val (.int iln), .val (.int ie0), .val (.int ie1), .val (.int ie2), .val (.int vp3), .val (.int vp4), .val (.int (0 : Int32)), .val (.int vn), .val (.int (0 : Int32)), .val (.int (1 : Int32)), .val (.int (2 : Int32)), .val (.ref b73), .val (.ref b80), .val (.ref b85), .val (.ref b93), .val (.ref b101), .val (.ref a18), .val (.int (0 : Int32)), .val (.int c0), .val (.int c1), .val (.int c2), .val (.int c3), .unset, .unset] [(.int (0 : Int32))])) rfl (hb hby at_392) rfl (by decide) (cap := 0) (by decide) (by decide) (by decide) (by decide)
        obtain ⟨b106, g106⟩ : ∃ z, z = hJ.size := ⟨_, rfl⟩
        rw [← g106] at A106 st106
        refine Go.step st106 ?_
        have g_b106 : n0 ≤ b106 := Nat.le_trans ZJ (Nat.le_of_eq g106.symm)
        have ne_a18_b106 : a18 ≠ b106 := Nat.ne_of_lt (Nat.lt_of_lt_of_le V8j.lt (Nat.le_of_eq g106.symm))
        have ne_b101_b106 : b101 ≠ b106 := Nat.ne_of_lt (Nat.lt_of_lt_of_le Ej.lt (Nat.le_of_eq g106.symm))
        have ne_b73_b106 : b73 ≠ b106 := Nat.ne_of_lt (Nat.lt_of_lt_of_le Vpj.lt (Nat.le_of_eq g106.symm))
        have ne_b80_b106 : b80 ≠ b106 := Nat.ne_of_lt (Nat.lt_of_lt_of_le Vtj.lt (Nat.le_of_eq g106.symm))
        have Z106 : n0 ≤ h106.size := Nat.le_trans ZJ E106.1
        have V106 : Arv Z h106 b106 k106 .int (0 : Int32) [] (.int (0 : Int32)) := Arv.new A106 (by decide)
        have V107 : Arv Z h106 b106 k106 .int (0 : Int32) [] (.int (0 : Int32)) := (V106).pad (pad_rep [] (.int (0 : Int32)) 0)
        show Go _ _ _ _ _ _ _ T106 (mkF m 394 #[.val (.int ish), .val (.int ind), .val (.int iln), .val (.int ie0), .val (.int ie1), .val (.int ie2), .val (.int vp3), .val (.int vp4), .val (.int (0 : Int32)), .val (.int vn), .val (.int (0 : Int32)), .val (.int (1 : Int32)), .val (.int (2 : Int32)), .val (.ref b73), .val (.ref b80), .val (.ref b85), .val (.ref b93), .val (.ref b101), .val (.ref a18), .val (.int (0 : Int32)), .val (.int c0), .val (.int c1), .val (.int c2), .val (.int c3), .unset, .unset] [(.ref b106)])
        refine Go.step (fun _ k => XS.astore X106.here hx rfl (hb hby at_394) rfl rfl (l' := #[.val (.int ish), .val (.int ind), .val (.int iln), .val (.int ie0), .val (.int ie1), .val (.int ie2), .val (.int vp3), .val (.int vp4), .val (.int (0 : Int32)), .val (.int vn), .val (.int (0 : Int32)), .val (.int (1 : Int32)), .val (.int (2 : Int32)), .val (.ref b73), .val (.ref b80), .val (.ref b85), .val (.ref b93), .val (.ref b101), .val (.ref a18), .val (.int (0 : Int32)), .val (.int c0), .val (.int c1), .val (.int c2), .val (.int c3), .val (.ref b106), .unset]) rfl k) ?_
        show Go _ _ _ _ _ _ _ T106 (mkF m 396 #[.val (.int ish), .val (.int ind), .val (.int iln), .val (.int ie0), .val (.int ie1), .val (.int ie2), .val (.int vp3), .val (.int vp4), .val (.int (0 : Int32)), .val (.int vn), .val (.int (0 : Int32)), .val (.int (1 : Int32)), .val (.int (2 : Int32)), .val (.ref b73), .val (.ref b80), .val (.ref b85), .val (.ref b93), .val (.ref b101), .val (.ref a18), .val (.int (0 : Int32)), .val (.int c0), .val (.int c1), .val (.int c2), .val (.int c3), .val (.ref b106), .unset] [])
        refine Go.step (fun _ k => XS.iload X106.here hx rfl (hb hby at_396) rfl k) ?_
        have hc398_108 : ¬ ((0 : Int32) < (0 : Int32)) := (by decide)
        refine Go.step (fun _ k => XS.ifYes X106.here hx rfl (pc0 := 398) (pc' := 407) rfl (hb hby at_398) rfl ((if0 _ _).trans (flt hc398_108).2.2.2) (by decide) (by decide) k) ?_
        show Go _ _ _ _ _ _ _ T106 (mkF m 407 #[.val (.int ish), .val (.int ind), .val (.int iln), .val (.int ie0), .val (.int ie1), .val (.int ie2), .val (.int vp3), .val (.int vp4), .val (.int (0 : Int32)), .val (.int vn), .val (.int (0 : Int32)), .val (.int (1 : Int32)), .val (.int (2 : Int32)), .val (.ref b73), .val (.ref b80), .val (.ref b85), .val (.ref b93), .val (.ref b101), .val (.ref a18), .val (.int (0 : Int32)), .val (.int c0), .val (.int c1), .val (.int c2), .val (.int c3), .val (.ref b106), .unset] [])
        refine Go.step (fun _ k => XS.iload X106.here hx rfl (hb hby at_407) rfl k) ?_
        refine Go.step (fun _ k => XS.iconst X106.here hx rfl (hb hby at_409) k) ?_
        have hc410_109 : ¬ ((1 : Int32) < (0 : Int32)) := (by decide)
        refine Go.step (fun _ k => XS.icmpYes X106.here hx rfl (pc0 := 410) (pc' := 419) rfl (hb hby at_410) rfl (flt hc410_109).2.2.2 (by decide) (by decide) k) ?_
        show Go _ _ _ _ _ _ _ T106 (mkF m 419 #[.val (.int ish), .val (.int ind), .val (.int iln), .val (.int ie0), .val (.int ie1), .val (.int ie2), .val (.int vp3), .val (.int vp4), .val (.int (0 : Int32)), .val (.int vn), .val (.int (0 : Int32)), .val (.int (1 : Int32)), .val (.int (2 : Int32)), .val (.ref b73), .val (.ref b80), .val (.ref b85), .val (.ref b93), .val (.ref b101), .val (.ref a18), .val (.int (0 : Int32)), .val (.int c0), .val (.int c1), .val (.int c2), .val (.int c3), .val (.ref b106), .unset] [])
        refine Go.step (fun _ k => XS.iload X106.here hx rfl (hb hby at_419) rfl k) ?_
        refine Go.step (fun _ k => XS.iconst X106.here hx rfl (hb hby at_421) k) ?_
        have hc422_110 : ¬ ((2 : Int32) < (0 : Int32)) := (by decide)
        refine Go.step (fun _ k => XS.icmpYes X106.here hx rfl (pc0 := 422) (pc' := 431) rfl (hb hby at_422) rfl (flt hc422_110).2.2.2 (by decide) (by decide) k) ?_
        show Go _ _ _ _ _ _ _ T106 (mkF m 431 #[.val (.int ish), .val (.int ind), .val (.int iln), .val (.int ie0), .val (.int ie1), .val (.int ie2), .val (.int vp3), .val (.int vp4), .val (.int (0 : Int32)), .val (.int vn), .val (.int (0 : Int32)), .val (.int (1 : Int32)), .val (.int (2 : Int32)), .val (.ref b73), .val (.ref b80), .val (.ref b85), .val (.ref b93), .val (.ref b101), .val (.ref a18), .val (.int (0 : Int32)), .val (.int c0), .val (.int c1), .val (.int c2), .val (.int c3), .val (.ref b106), .unset] [])
        refine Go.step (fun _ k => XS.iload X106.here hx rfl (hb hby at_431) rfl k) ?_
        refine Go.step (fun _ k => XS.iconst X106.here hx rfl (hb hby at_433) k) ?_
        have hc434_111 : ¬ ((3 : Int32) < (0 : Int32)) := (by decide)
        refine Go.step (fun _ k => XS.icmpYes X106.here hx rfl (pc0 := 434) (pc' := 443) rfl (hb hby at_434) rfl (flt hc434_111).2.2.2 (by decide) (by decide) k) ?_
        show Go _ _ _ _ _ _ _ T106 (mkF m 443 #[.val (.int ish), .val (.int ind), .val (.int iln), .val (.int ie0), .val (.int ie1), .val (.int ie2), .val (.int vp3), .val (.int vp4), .val (.int (0 : Int32)), .val (.int vn), .val (.int (0 : Int32)), .val (.int (1 : Int32)), .val (.int (2 : Int32)), .val (.ref b73), .val (.ref b80), .val (.ref b85), .val (.ref b93), .val (.ref b101), .val (.ref a18), .val (.int (0 : Int32)), .val (.int c0), .val (.int c1), .val (.int c2), .val (.int c3), .val (.ref b106), .unset] [])
        refine Go.step (fun _ k => XS.aload X106.here hx rfl (hb hby at_443) rfl rfl k) ?_
        refine Go.step (fun _ k => XS.iload X106.here hx rfl (hb hby at_445) rfl k) ?_
        refine Go.step (fun _ k => XS.aload X106.here hx rfl (hb hby at_447) rfl rfl k) ?_
        have f113 : Exa Z h106 b101 "com/example/wayfront/wayfront/paths/ShortestPathTree" := (Ej.ext E106)
        have f114 : Fld Z h106 b101 "com/example/wayfront/wayfront/paths/ShortestPathTree" "predecessor" "[I" (.ref b73) := (Fpj.ext E106)
        have f115 : Fld Z h106 b101 "com/example/wayfront/wayfront/paths/ShortestPathTree" "tail" "[I" (.ref b80) := (Ftj.ext E106)
        have f116 : Arv Z h106 b73 k73 .int (5 : Int32) [(.int (-1 : Int32)), (.int (-1 : Int32)), (.int (0 : Int32)), (.int (1 : Int32)), (.int (2 : Int32))] (.int (0 : Int32)) := (Vpj.ext E106)
        have f117 : Arv Z h106 b80 k80 .int (3 : Int32) [(.int (1 : Int32)), (.int vp3), (.int vp4)] (.int (0 : Int32)) := (Vtj.ext E106)
        obtain ⟨cq112, kq112, q112a, q112b, q112c⟩ := isOf hZ e106 f113
        obtain ⟨_, _, ⟨T112, L112, k112, n112⟩, -, X112, ⟨Lc112, hQ112, l112, y112, z112⟩, st112⟩ := X106.virtualBack hx (y := (⟨"com/example/wayfront/wayfront/paths/ShortestPathTree", "isPathTo", "(I[I)Z"⟩ : MethodName)) (z := (⟨"com/example/wayfront/wayfront/paths/ShortestPathTree", "isPathTo", "(I[I)Z"⟩ : MethodName)) hown (mvT hZ (hw _ (List.mem_of_getElem? (i := 28) rfl))) (mvT hZ (hw _ (List.mem_of_getElem? (i := 29) rfl))) (notFace_of_selects (args := #[]) (mvT hZ (hw _ (List.mem_of_getElem? (i := 31) rfl)))) (mvT hZ (hw _ (List.mem_of_getElem? (i := 31) rfl))) (mvT hZ (hw _ (List.mem_of_getElem? (i := 30) rfl))) (by decide) (backOf (W := 0) (rmIs l Z a0 hw [] b101 vn b106 b73 k73 ([(-1 : Int32), (-1 : Int32), (0 : Int32), (1 : Int32), (2 : Int32)] : List Int32) b80 k80 ([(1 : Int32), vp3, vp4] : List Int32) k106 (0 : Int32) ([] : List Int32) ls0 h106 n0 Z106 f113 f114 f115 f116 f117 V107 rfl rfl rfl (by decide) hchj) hZ (hw _ (List.mem_of_getElem? (i := 32) rfl)) (hw _ (List.mem_of_getElem? (i := 11) rfl)) (by decide) (by decide)) q112a q112c (g := (mkF m 449 #[.val (.int ish), .val (.int ind), .val (.int iln), .val (.int ie0), .val (.int ie1), .val (.int ie2), .val (.int vp3), .val (.int vp4), .val (.int (0 : Int32)), .val (.int vn), .val (.int (0 : Int32)), .val (.int (1 : Int32)), .val (.int (2 : Int32)), .val (.ref b73), .val (.ref b80), .val (.ref b85), .val (.ref b93), .val (.ref b101), .val (.ref a18), .val (.int (0 : Int32)), .val (.int c0), .val (.int c1), .val (.int c2), .val (.int c3), .val (.ref b106), .unset] [(.ref b106), (.int vn), (.ref b101)])) rfl (by rw [hml]; rfl) (Steps.refl _) (argsL := [(.int vn), (.ref b106)]) (rest := []) (lenOf pd__I_I_Z rfl) rfl (by show 2 * 0 + _ ≤ _; exact Nat.le_of_eq rfl) (hb hby at_449) (fun _ _ => ⟨rfl, e106, (by decide : 7 + 0 ≤ _), (by decide : 25 + 0 ≤ _)⟩)
        dsimp only [Pt.U, Pt.locs, Pt.cells, Pt.slots] at X112 l112 y112 z112 st112 hQ112
        subst l112 y112 z112
        obtain ⟨h112, e112⟩ : ∃ h, T112.heap = h := ⟨_, rfl⟩
        rw [e112] at hQ112
        obtain ⟨rfl, Nq112, hs112⟩ := hQ112
        have N112 := Fr.app NJ Nq112
        rw [hs112] at e112
        refine Go.trans st112 ?_
        show Go _ _ _ _ _ _ _ T112 (mkF m 452 #[.val (.int ish), .val (.int ind), .val (.int iln), .val (.int ie0), .val (.int ie1), .val (.int ie2), .val (.int vp3), .val (.int vp4), .val (.int (0 : Int32)), .val (.int vn), .val (.int (0 : Int32)), .val (.int (1 : Int32)), .val (.int (2 : Int32)), .val (.ref b73), .val (.ref b80), .val (.ref b85), .val (.ref b93), .val (.ref b101), .val (.ref a18), .val (.int (0 : Int32)), .val (.int c0), .val (.int c1), .val (.int c2), .val (.int c3), .val (.ref b106), .unset] [(.int (if ([] : List Int32) = ls0.reverse then (1 : Int32) else 0))])
        refine Go.step (fun _ k => XS.istore X112.here hx rfl (hb hby at_452) rfl (l' := #[.val (.int ish), .val (.int ind), .val (.int iln), .val (.int ie0), .val (.int ie1), .val (.int ie2), .val (.int vp3), .val (.int vp4), .val (.int (0 : Int32)), .val (.int vn), .val (.int (0 : Int32)), .val (.int (1 : Int32)), .val (.int (2 : Int32)), .val (.ref b73), .val (.ref b80), .val (.ref b85), .val (.ref b93), .val (.ref b101), .val (.ref a18), .val (.int (0 : Int32)), .val (.int c0), .val (.int c1), .val (.int c2), .val (.int c3), .val (.ref b106), .val (.int (if ([] : List Int32) = ls0.reverse then (1 : Int32) else 0))]) rfl k) ?_
        show Go _ _ _ _ _ _ _ T112 (mkF m 454 #[.val (.int ish), .val (.int ind), .val (.int iln), .val (.int ie0), .val (.int ie1), .val (.int ie2), .val (.int vp3), .val (.int vp4), .val (.int (0 : Int32)), .val (.int vn), .val (.int (0 : Int32)), .val (.int (1 : Int32)), .val (.int (2 : Int32)), .val (.ref b73), .val (.ref b80), .val (.ref b85), .val (.ref b93), .val (.ref b101), .val (.ref a18), .val (.int (0 : Int32)), .val (.int c0), .val (.int c1), .val (.int c2), .val (.int c3), .val (.ref b106), .val (.int (if ([] : List Int32) = ls0.reverse then (1 : Int32) else 0))] [])
        refine Go.step (fun _ k => XS.iload X112.here hx rfl (hb hby at_454) rfl k) ?_
        refine Go.step (fun _ k => XS.aload X112.here hx rfl (hb hby at_456) rfl rfl k) ?_
        refine Go.step (fun _ k => XS.aload X112.here hx rfl (hb hby at_458) rfl rfl k) ?_
        have f119 : Arv Z h106 a18 k18 .int n18 (le.map Value.int) (.int (0 : Int32)) := (V8j.ext E106)
        obtain ⟨_, _, ⟨T118, L118, k118, n118⟩, -, X118, ⟨Lc118, hQ118, l118, y118, z118⟩, st118⟩ := Jvm.LawKit.callS X112 hx (y := (⟨"com/example/wayfront/wayfront/paths/ShortestPathTreeIsPathToPinLaw", "same", "([I[I)Z"⟩ : MethodName)) hown (mvT hZ (hw _ (List.mem_of_getElem? (i := 33) rfl))) (mvT hZ (hw _ (List.mem_of_getElem? (i := 34) rfl))) (mvT hZ (hw _ (List.mem_of_getElem? (i := 3) rfl))) (mvT hZ (hw _ (List.mem_of_getElem? (i := 35) rfl))) (by decide) (backOf (W := 1) (rmSa l Z a0 hw [] a18 b106 k18 n18 le k106 (0 : Int32) ([] : List Int32) h106 n0 Z106 f119 V107 hle hn8 rfl (by decide) h48) hZ (hw _ (List.mem_of_getElem? (i := 35) rfl)) (hw _ (List.mem_of_getElem? (i := 3) rfl)) (by decide) (by decide)) (g := (mkF m 460 #[.val (.int ish), .val (.int ind), .val (.int iln), .val (.int ie0), .val (.int ie1), .val (.int ie2), .val (.int vp3), .val (.int vp4), .val (.int (0 : Int32)), .val (.int vn), .val (.int (0 : Int32)), .val (.int (1 : Int32)), .val (.int (2 : Int32)), .val (.ref b73), .val (.ref b80), .val (.ref b85), .val (.ref b93), .val (.ref b101), .val (.ref a18), .val (.int (0 : Int32)), .val (.int c0), .val (.int c1), .val (.int c2), .val (.int c3), .val (.ref b106), .val (.int (if ([] : List Int32) = ls0.reverse then (1 : Int32) else 0))] [(.ref b106), (.ref a18), (.int (if ([] : List Int32) = ls0.reverse then (1 : Int32) else 0))])) rfl (by rw [hml]; rfl) (argsL := [(.ref a18), (.ref b106)]) (rest := [(.int (if ([] : List Int32) = ls0.reverse then (1 : Int32) else 0))]) (lenOf pd___I_I_Z rfl) rfl (by show 2 * 0 + _ ≤ _; exact Nat.le_of_eq rfl) (hb hby at_460) (fun _ _ => ⟨rfl, e112, (by decide : 7 + 0 ≤ _), (by decide : 25 + 0 ≤ _)⟩)
        dsimp only [Pt.U, Pt.locs, Pt.cells, Pt.slots] at X118 l118 y118 z118 st118 hQ118
        subst l118 y118 z118
        obtain ⟨h118, e118⟩ : ∃ h, T118.heap = h := ⟨_, rfl⟩
        rw [e118] at hQ118
        obtain ⟨rfl, Nq118, hs118⟩ := hQ118
        have N118 := Fr.app N112 Nq118
        rw [hs118] at e118
        refine Go.step st118 ?_
        show Go _ _ _ _ _ _ _ T118 (mkF m 463 #[.val (.int ish), .val (.int ind), .val (.int iln), .val (.int ie0), .val (.int ie1), .val (.int ie2), .val (.int vp3), .val (.int vp4), .val (.int (0 : Int32)), .val (.int vn), .val (.int (0 : Int32)), .val (.int (1 : Int32)), .val (.int (2 : Int32)), .val (.ref b73), .val (.ref b80), .val (.ref b85), .val (.ref b93), .val (.ref b101), .val (.ref a18), .val (.int (0 : Int32)), .val (.int c0), .val (.int c1), .val (.int c2), .val (.int c3), .val (.ref b106), .val (.int (if ([] : List Int32) = ls0.reverse then (1 : Int32) else 0))] [(.int (if le = ([] : List Int32) then (1 : Int32) else 0)), (.int (if ([] : List Int32) = ls0.reverse then (1 : Int32) else 0))])
        have hc463_120 : (if ([] : List Int32) = ls0.reverse then (1 : Int32) else 0) = (if le = ([] : List Int32) then (1 : Int32) else 0) := (own_fin hrv)
        refine Go.step (fun _ k => XS.icmpNo X118.here hx rfl (hb hby at_463) rfl (teq hc463_120).2 k) ?_
        show Go _ _ _ _ _ _ _ T118 (mkF m 466 #[.val (.int ish), .val (.int ind), .val (.int iln), .val (.int ie0), .val (.int ie1), .val (.int ie2), .val (.int vp3), .val (.int vp4), .val (.int (0 : Int32)), .val (.int vn), .val (.int (0 : Int32)), .val (.int (1 : Int32)), .val (.int (2 : Int32)), .val (.ref b73), .val (.ref b80), .val (.ref b85), .val (.ref b93), .val (.ref b101), .val (.ref a18), .val (.int (0 : Int32)), .val (.int c0), .val (.int c1), .val (.int c2), .val (.int c3), .val (.ref b106), .val (.int (if ([] : List Int32) = ls0.reverse then (1 : Int32) else 0))] [])
        refine Go.step (fun _ k => XS.iconst X118.here hx rfl (hb hby at_466) k) ?_
        refine Go.step (fun _ k => XS.goto X118.here hx rfl (pc0 := 467) (pc' := 471) rfl (hb hby at_467) (by decide) (by decide) k) ?_
        show Go _ _ _ _ _ _ _ T118 (mkF m 471 #[.val (.int ish), .val (.int ind), .val (.int iln), .val (.int ie0), .val (.int ie1), .val (.int ie2), .val (.int vp3), .val (.int vp4), .val (.int (0 : Int32)), .val (.int vn), .val (.int (0 : Int32)), .val (.int (1 : Int32)), .val (.int (2 : Int32)), .val (.ref b73), .val (.ref b80), .val (.ref b85), .val (.ref b93), .val (.ref b101), .val (.ref a18), .val (.int (0 : Int32)), .val (.int c0), .val (.int c1), .val (.int c2), .val (.int c3), .val (.ref b106), .val (.int (if ([] : List Int32) = ls0.reverse then (1 : Int32) else 0))] [(.int (1 : Int32))])
        exact Go.retN X118 hx (t := .boolean) hret hlk (by simp) (hb hby at_471) e118 (by decide) (by decide) ⟨rfl, N118, trivial⟩
      · show Go _ _ _ _ _ _ _ TJ (mkF m 390 #[.val (.int ish), .val (.int ind), .val (.int iln), .val (.int ie0), .val (.int ie1), .val (.int ie2), .val (.int vp3), .val (.int vp4), .val (.int (0 : Int32)), .val (.int vn), .val (.int (0 : Int32)), .val (.int (1 : Int32)), .val (.int (2 : Int32)), .val (.ref b73), .val (.ref b80), .val (.ref b85), .val (.ref b93), .val (.ref b101), .val (.ref a18), .val (.int (1 : Int32)), .val (.int c0), .val (.int c1), .val (.int c2), .val (.int c3), .unset, .unset] [])
        refine Go.step (fun _ k => XS.iload XJ.here hx rfl (hb hby at_390) rfl k) ?_
        obtain ⟨T121, h121, k121, X121, e121, E121, A121, st121⟩ := newP XJ hx hZ (hw _ (List.mem_of_getElem? (i := 5) rfl)) eJ (g := (mkF m 392 #[.val (.int ish), .val (.int ind), .val (.int iln), .val (.int ie0), .val (.int ie1), .val (.int ie2), .val (.int vp3), .val (.int vp4), .val (.int (0 : Int32)), .val (.int vn), .val (.int (0 : Int32)), .val (.int (1 : Int32)), .val (.int (2 : Int32)), .val (.ref b73), .val (.ref b80), .val (.ref b85), .val (.ref b93), .val (.ref b101), .val (.ref a18), .val (.int (1 : Int32)), .val (.int c0), .val (.int c1), .val (.int c2), .val (.int c3), .unset, .unset] [(.int (1 : Int32))])) rfl (hb hby at_392) rfl (by decide) (cap := 1) (by decide) (by decide) (by decide) (by decide)
        obtain ⟨b121, g121⟩ : ∃ z, z = hJ.size := ⟨_, rfl⟩
        rw [← g121] at A121 st121
        refine Go.step st121 ?_
        have g_b121 : n0 ≤ b121 := Nat.le_trans ZJ (Nat.le_of_eq g121.symm)
        have ne_a18_b121 : a18 ≠ b121 := Nat.ne_of_lt (Nat.lt_of_lt_of_le V8j.lt (Nat.le_of_eq g121.symm))
        have ne_b101_b121 : b101 ≠ b121 := Nat.ne_of_lt (Nat.lt_of_lt_of_le Ej.lt (Nat.le_of_eq g121.symm))
        have ne_b73_b121 : b73 ≠ b121 := Nat.ne_of_lt (Nat.lt_of_lt_of_le Vpj.lt (Nat.le_of_eq g121.symm))
        have ne_b80_b121 : b80 ≠ b121 := Nat.ne_of_lt (Nat.lt_of_lt_of_le Vtj.lt (Nat.le_of_eq g121.symm))
        have Z121 : n0 ≤ h121.size := Nat.le_trans ZJ E121.1
        have V121 : Arv Z h121 b121 k121 .int (1 : Int32) [] (.int (0 : Int32)) := Arv.new A121 (by decide)
        have V122 : Arv Z h121 b121 k121 .int (1 : Int32) [(.int (0 : Int32))] (.int (0 : Int32)) := (V121).pad (pad_rep [] (.int (0 : Int32)) 1)
        show Go _ _ _ _ _ _ _ T121 (mkF m 394 #[.val (.int ish), .val (.int ind), .val (.int iln), .val (.int ie0), .val (.int ie1), .val (.int ie2), .val (.int vp3), .val (.int vp4), .val (.int (0 : Int32)), .val (.int vn), .val (.int (0 : Int32)), .val (.int (1 : Int32)), .val (.int (2 : Int32)), .val (.ref b73), .val (.ref b80), .val (.ref b85), .val (.ref b93), .val (.ref b101), .val (.ref a18), .val (.int (1 : Int32)), .val (.int c0), .val (.int c1), .val (.int c2), .val (.int c3), .unset, .unset] [(.ref b121)])
        refine Go.step (fun _ k => XS.astore X121.here hx rfl (hb hby at_394) rfl rfl (l' := #[.val (.int ish), .val (.int ind), .val (.int iln), .val (.int ie0), .val (.int ie1), .val (.int ie2), .val (.int vp3), .val (.int vp4), .val (.int (0 : Int32)), .val (.int vn), .val (.int (0 : Int32)), .val (.int (1 : Int32)), .val (.int (2 : Int32)), .val (.ref b73), .val (.ref b80), .val (.ref b85), .val (.ref b93), .val (.ref b101), .val (.ref a18), .val (.int (1 : Int32)), .val (.int c0), .val (.int c1), .val (.int c2), .val (.int c3), .val (.ref b121), .unset]) rfl k) ?_
        show Go _ _ _ _ _ _ _ T121 (mkF m 396 #[.val (.int ish), .val (.int ind), .val (.int iln), .val (.int ie0), .val (.int ie1), .val (.int ie2), .val (.int vp3), .val (.int vp4), .val (.int (0 : Int32)), .val (.int vn), .val (.int (0 : Int32)), .val (.int (1 : Int32)), .val (.int (2 : Int32)), .val (.ref b73), .val (.ref b80), .val (.ref b85), .val (.ref b93), .val (.ref b101), .val (.ref a18), .val (.int (1 : Int32)), .val (.int c0), .val (.int c1), .val (.int c2), .val (.int c3), .val (.ref b121), .unset] [])
        refine Go.step (fun _ k => XS.iload X121.here hx rfl (hb hby at_396) rfl k) ?_
        have hc398_123 : (0 : Int32) < (1 : Int32) := (by decide)
        refine Go.step (fun _ k => XS.ifNo X121.here hx rfl (hb hby at_398) rfl ((if0 _ _).trans (tlt hc398_123).2.2.2) k) ?_
        show Go _ _ _ _ _ _ _ T121 (mkF m 401 #[.val (.int ish), .val (.int ind), .val (.int iln), .val (.int ie0), .val (.int ie1), .val (.int ie2), .val (.int vp3), .val (.int vp4), .val (.int (0 : Int32)), .val (.int vn), .val (.int (0 : Int32)), .val (.int (1 : Int32)), .val (.int (2 : Int32)), .val (.ref b73), .val (.ref b80), .val (.ref b85), .val (.ref b93), .val (.ref b101), .val (.ref a18), .val (.int (1 : Int32)), .val (.int c0), .val (.int c1), .val (.int c2), .val (.int c3), .val (.ref b121), .unset] [])
        refine Go.step (fun _ k => XS.aload X121.here hx rfl (hb hby at_401) rfl rfl k) ?_
        refine Go.step (fun _ k => XS.iconst X121.here hx rfl (hb hby at_403) k) ?_
        refine Go.step (fun _ k => XS.iload X121.here hx rfl (hb hby at_404) rfl k) ?_
        obtain ⟨cl124, Ar124, q124, S124, M124, H124, G124⟩ := id (V122)
        have hin124 : ¬ ((0 : Int32) < 0 ∨ cl124.slots.size ≤ ((0 : Int32)).toNatClampNeg) := inb_of S124 ⟨by decide, by decide⟩
        obtain ⟨T124, h124, X124, e124, W124, st124⟩ := stI X121 hx hZ e121 Ar124 (j := (0 : Int32)) hin124 (g := (mkF m 406 #[.val (.int ish), .val (.int ind), .val (.int iln), .val (.int ie0), .val (.int ie1), .val (.int ie2), .val (.int vp3), .val (.int vp4), .val (.int (0 : Int32)), .val (.int vn), .val (.int (0 : Int32)), .val (.int (1 : Int32)), .val (.int (2 : Int32)), .val (.ref b73), .val (.ref b80), .val (.ref b85), .val (.ref b93), .val (.ref b101), .val (.ref a18), .val (.int (1 : Int32)), .val (.int c0), .val (.int c1), .val (.int c2), .val (.int c3), .val (.ref b121), .unset] [(.int c0), (.int (0 : Int32)), (.ref b121)])) rfl rfl (hb hby at_406)
        refine Go.step st124 ?_
        have V124 : Arv Z h124 b121 k121 .int (1 : Int32) [(.int c0)] (.int (0 : Int32)) := Arv.set Ar124 q124 S124 M124 H124 G124 rfl W124 0 rfl (Nat.le_of_ble_eq_true rfl)
        have N124 := Fr.snoc X124 NJ g_b121
        have Z124 : n0 ≤ h124.size := Nat.le_trans Z121 (Keep.of_wr W124).1
        show Go _ _ _ _ _ _ _ T124 (mkF m 407 #[.val (.int ish), .val (.int ind), .val (.int iln), .val (.int ie0), .val (.int ie1), .val (.int ie2), .val (.int vp3), .val (.int vp4), .val (.int (0 : Int32)), .val (.int vn), .val (.int (0 : Int32)), .val (.int (1 : Int32)), .val (.int (2 : Int32)), .val (.ref b73), .val (.ref b80), .val (.ref b85), .val (.ref b93), .val (.ref b101), .val (.ref a18), .val (.int (1 : Int32)), .val (.int c0), .val (.int c1), .val (.int c2), .val (.int c3), .val (.ref b121), .unset] [])
        refine Go.step (fun _ k => XS.iload X124.here hx rfl (hb hby at_407) rfl k) ?_
        refine Go.step (fun _ k => XS.iconst X124.here hx rfl (hb hby at_409) k) ?_
        have hc410_125 : ¬ ((1 : Int32) < (1 : Int32)) := (by decide)
        refine Go.step (fun _ k => XS.icmpYes X124.here hx rfl (pc0 := 410) (pc' := 419) rfl (hb hby at_410) rfl (flt hc410_125).2.2.2 (by decide) (by decide) k) ?_
        show Go _ _ _ _ _ _ _ T124 (mkF m 419 #[.val (.int ish), .val (.int ind), .val (.int iln), .val (.int ie0), .val (.int ie1), .val (.int ie2), .val (.int vp3), .val (.int vp4), .val (.int (0 : Int32)), .val (.int vn), .val (.int (0 : Int32)), .val (.int (1 : Int32)), .val (.int (2 : Int32)), .val (.ref b73), .val (.ref b80), .val (.ref b85), .val (.ref b93), .val (.ref b101), .val (.ref a18), .val (.int (1 : Int32)), .val (.int c0), .val (.int c1), .val (.int c2), .val (.int c3), .val (.ref b121), .unset] [])
        refine Go.step (fun _ k => XS.iload X124.here hx rfl (hb hby at_419) rfl k) ?_
        refine Go.step (fun _ k => XS.iconst X124.here hx rfl (hb hby at_421) k) ?_
        have hc422_126 : ¬ ((2 : Int32) < (1 : Int32)) := (by decide)
        refine Go.step (fun _ k => XS.icmpYes X124.here hx rfl (pc0 := 422) (pc' := 431) rfl (hb hby at_422) rfl (flt hc422_126).2.2.2 (by decide) (by decide) k) ?_
        show Go _ _ _ _ _ _ _ T124 (mkF m 431 #[.val (.int ish), .val (.int ind), .val (.int iln), .val (.int ie0), .val (.int ie1), .val (.int ie2), .val (.int vp3), .val (.int vp4), .val (.int (0 : Int32)), .val (.int vn), .val (.int (0 : Int32)), .val (.int (1 : Int32)), .val (.int (2 : Int32)), .val (.ref b73), .val (.ref b80), .val (.ref b85), .val (.ref b93), .val (.ref b101), .val (.ref a18), .val (.int (1 : Int32)), .val (.int c0), .val (.int c1), .val (.int c2), .val (.int c3), .val (.ref b121), .unset] [])
        refine Go.step (fun _ k => XS.iload X124.here hx rfl (hb hby at_431) rfl k) ?_
        refine Go.step (fun _ k => XS.iconst X124.here hx rfl (hb hby at_433) k) ?_
        have hc434_127 : ¬ ((3 : Int32) < (1 : Int32)) := (by decide)
        refine Go.step (fun _ k => XS.icmpYes X124.here hx rfl (pc0 := 434) (pc' := 443) rfl (hb hby at_434) rfl (flt hc434_127).2.2.2 (by decide) (by decide) k) ?_
        show Go _ _ _ _ _ _ _ T124 (mkF m 443 #[.val (.int ish), .val (.int ind), .val (.int iln), .val (.int ie0), .val (.int ie1), .val (.int ie2), .val (.int vp3), .val (.int vp4), .val (.int (0 : Int32)), .val (.int vn), .val (.int (0 : Int32)), .val (.int (1 : Int32)), .val (.int (2 : Int32)), .val (.ref b73), .val (.ref b80), .val (.ref b85), .val (.ref b93), .val (.ref b101), .val (.ref a18), .val (.int (1 : Int32)), .val (.int c0), .val (.int c1), .val (.int c2), .val (.int c3), .val (.ref b121), .unset] [])
        refine Go.step (fun _ k => XS.aload X124.here hx rfl (hb hby at_443) rfl rfl k) ?_
        refine Go.step (fun _ k => XS.iload X124.here hx rfl (hb hby at_445) rfl k) ?_
        refine Go.step (fun _ k => XS.aload X124.here hx rfl (hb hby at_447) rfl rfl k) ?_
        have f129 : Exa Z h124 b101 "com/example/wayfront/wayfront/paths/ShortestPathTree" := ((Ej.ext E121).wr W124)
        have f130 : Fld Z h124 b101 "com/example/wayfront/wayfront/paths/ShortestPathTree" "predecessor" "[I" (.ref b73) := ((Fpj.ext E121).other W124 (Or.inl ne_b101_b121))
        have f131 : Fld Z h124 b101 "com/example/wayfront/wayfront/paths/ShortestPathTree" "tail" "[I" (.ref b80) := ((Ftj.ext E121).other W124 (Or.inl ne_b101_b121))
        have f132 : Arv Z h124 b73 k73 .int (5 : Int32) [(.int (-1 : Int32)), (.int (-1 : Int32)), (.int (0 : Int32)), (.int (1 : Int32)), (.int (2 : Int32))] (.int (0 : Int32)) := ((Vpj.ext E121).other W124 ne_b73_b121)
        have f133 : Arv Z h124 b80 k80 .int (3 : Int32) [(.int (1 : Int32)), (.int vp3), (.int vp4)] (.int (0 : Int32)) := ((Vtj.ext E121).other W124 ne_b80_b121)
        obtain ⟨cq128, kq128, q128a, q128b, q128c⟩ := isOf hZ e124 f129
        obtain ⟨_, _, ⟨T128, L128, k128, n128⟩, -, X128, ⟨Lc128, hQ128, l128, y128, z128⟩, st128⟩ := X124.virtualBack hx (y := (⟨"com/example/wayfront/wayfront/paths/ShortestPathTree", "isPathTo", "(I[I)Z"⟩ : MethodName)) (z := (⟨"com/example/wayfront/wayfront/paths/ShortestPathTree", "isPathTo", "(I[I)Z"⟩ : MethodName)) hown (mvT hZ (hw _ (List.mem_of_getElem? (i := 28) rfl))) (mvT hZ (hw _ (List.mem_of_getElem? (i := 29) rfl))) (notFace_of_selects (args := #[]) (mvT hZ (hw _ (List.mem_of_getElem? (i := 31) rfl)))) (mvT hZ (hw _ (List.mem_of_getElem? (i := 31) rfl))) (mvT hZ (hw _ (List.mem_of_getElem? (i := 30) rfl))) (by decide) (backOf (W := 0) (rmIs l Z a0 hw [] b101 vn b121 b73 k73 ([(-1 : Int32), (-1 : Int32), (0 : Int32), (1 : Int32), (2 : Int32)] : List Int32) b80 k80 ([(1 : Int32), vp3, vp4] : List Int32) k121 (1 : Int32) ([c0] : List Int32) ls0 h124 n0 Z124 f129 f130 f131 f132 f133 V124 rfl rfl rfl (by decide) hchj) hZ (hw _ (List.mem_of_getElem? (i := 32) rfl)) (hw _ (List.mem_of_getElem? (i := 11) rfl)) (by decide) (by decide)) q128a q128c (g := (mkF m 449 #[.val (.int ish), .val (.int ind), .val (.int iln), .val (.int ie0), .val (.int ie1), .val (.int ie2), .val (.int vp3), .val (.int vp4), .val (.int (0 : Int32)), .val (.int vn), .val (.int (0 : Int32)), .val (.int (1 : Int32)), .val (.int (2 : Int32)), .val (.ref b73), .val (.ref b80), .val (.ref b85), .val (.ref b93), .val (.ref b101), .val (.ref a18), .val (.int (1 : Int32)), .val (.int c0), .val (.int c1), .val (.int c2), .val (.int c3), .val (.ref b121), .unset] [(.ref b121), (.int vn), (.ref b101)])) rfl (by rw [hml]; rfl) (Steps.refl _) (argsL := [(.int vn), (.ref b121)]) (rest := []) (lenOf pd__I_I_Z rfl) rfl (by show 2 * 0 + _ ≤ _; exact Nat.le_of_eq rfl) (hb hby at_449) (fun _ _ => ⟨rfl, e124, (by decide : 7 + 0 ≤ _), (by decide : 26 + 0 ≤ _)⟩)
        dsimp only [Pt.U, Pt.locs, Pt.cells, Pt.slots] at X128 l128 y128 z128 st128 hQ128
        subst l128 y128 z128
        obtain ⟨h128, e128⟩ : ∃ h, T128.heap = h := ⟨_, rfl⟩
        rw [e128] at hQ128
        obtain ⟨rfl, Nq128, hs128⟩ := hQ128
        have N128 := Fr.app N124 Nq128
        rw [hs128] at e128
        refine Go.trans st128 ?_
        show Go _ _ _ _ _ _ _ T128 (mkF m 452 #[.val (.int ish), .val (.int ind), .val (.int iln), .val (.int ie0), .val (.int ie1), .val (.int ie2), .val (.int vp3), .val (.int vp4), .val (.int (0 : Int32)), .val (.int vn), .val (.int (0 : Int32)), .val (.int (1 : Int32)), .val (.int (2 : Int32)), .val (.ref b73), .val (.ref b80), .val (.ref b85), .val (.ref b93), .val (.ref b101), .val (.ref a18), .val (.int (1 : Int32)), .val (.int c0), .val (.int c1), .val (.int c2), .val (.int c3), .val (.ref b121), .unset] [(.int (if ([c0] : List Int32) = ls0.reverse then (1 : Int32) else 0))])
        refine Go.step (fun _ k => XS.istore X128.here hx rfl (hb hby at_452) rfl (l' := #[.val (.int ish), .val (.int ind), .val (.int iln), .val (.int ie0), .val (.int ie1), .val (.int ie2), .val (.int vp3), .val (.int vp4), .val (.int (0 : Int32)), .val (.int vn), .val (.int (0 : Int32)), .val (.int (1 : Int32)), .val (.int (2 : Int32)), .val (.ref b73), .val (.ref b80), .val (.ref b85), .val (.ref b93), .val (.ref b101), .val (.ref a18), .val (.int (1 : Int32)), .val (.int c0), .val (.int c1), .val (.int c2), .val (.int c3), .val (.ref b121), .val (.int (if ([c0] : List Int32) = ls0.reverse then (1 : Int32) else 0))]) rfl k) ?_
        show Go _ _ _ _ _ _ _ T128 (mkF m 454 #[.val (.int ish), .val (.int ind), .val (.int iln), .val (.int ie0), .val (.int ie1), .val (.int ie2), .val (.int vp3), .val (.int vp4), .val (.int (0 : Int32)), .val (.int vn), .val (.int (0 : Int32)), .val (.int (1 : Int32)), .val (.int (2 : Int32)), .val (.ref b73), .val (.ref b80), .val (.ref b85), .val (.ref b93), .val (.ref b101), .val (.ref a18), .val (.int (1 : Int32)), .val (.int c0), .val (.int c1), .val (.int c2), .val (.int c3), .val (.ref b121), .val (.int (if ([c0] : List Int32) = ls0.reverse then (1 : Int32) else 0))] [])
        refine Go.step (fun _ k => XS.iload X128.here hx rfl (hb hby at_454) rfl k) ?_
        refine Go.step (fun _ k => XS.aload X128.here hx rfl (hb hby at_456) rfl rfl k) ?_
        refine Go.step (fun _ k => XS.aload X128.here hx rfl (hb hby at_458) rfl rfl k) ?_
        have f135 : Arv Z h124 a18 k18 .int n18 (le.map Value.int) (.int (0 : Int32)) := ((V8j.ext E121).other W124 ne_a18_b121)
        obtain ⟨_, _, ⟨T134, L134, k134, n134⟩, -, X134, ⟨Lc134, hQ134, l134, y134, z134⟩, st134⟩ := Jvm.LawKit.callS X128 hx (y := (⟨"com/example/wayfront/wayfront/paths/ShortestPathTreeIsPathToPinLaw", "same", "([I[I)Z"⟩ : MethodName)) hown (mvT hZ (hw _ (List.mem_of_getElem? (i := 33) rfl))) (mvT hZ (hw _ (List.mem_of_getElem? (i := 34) rfl))) (mvT hZ (hw _ (List.mem_of_getElem? (i := 3) rfl))) (mvT hZ (hw _ (List.mem_of_getElem? (i := 35) rfl))) (by decide) (backOf (W := 1) (rmSa l Z a0 hw [] a18 b121 k18 n18 le k121 (1 : Int32) ([c0] : List Int32) h124 n0 Z124 f135 V124 hle hn8 rfl (by decide) h48) hZ (hw _ (List.mem_of_getElem? (i := 35) rfl)) (hw _ (List.mem_of_getElem? (i := 3) rfl)) (by decide) (by decide)) (g := (mkF m 460 #[.val (.int ish), .val (.int ind), .val (.int iln), .val (.int ie0), .val (.int ie1), .val (.int ie2), .val (.int vp3), .val (.int vp4), .val (.int (0 : Int32)), .val (.int vn), .val (.int (0 : Int32)), .val (.int (1 : Int32)), .val (.int (2 : Int32)), .val (.ref b73), .val (.ref b80), .val (.ref b85), .val (.ref b93), .val (.ref b101), .val (.ref a18), .val (.int (1 : Int32)), .val (.int c0), .val (.int c1), .val (.int c2), .val (.int c3), .val (.ref b121), .val (.int (if ([c0] : List Int32) = ls0.reverse then (1 : Int32) else 0))] [(.ref b121), (.ref a18), (.int (if ([c0] : List Int32) = ls0.reverse then (1 : Int32) else 0))])) rfl (by rw [hml]; rfl) (argsL := [(.ref a18), (.ref b121)]) (rest := [(.int (if ([c0] : List Int32) = ls0.reverse then (1 : Int32) else 0))]) (lenOf pd___I_I_Z rfl) rfl (by show 2 * 0 + _ ≤ _; exact Nat.le_of_eq rfl) (hb hby at_460) (fun _ _ => ⟨rfl, e128, (by decide : 7 + 0 ≤ _), (by decide : 26 + 0 ≤ _)⟩)
        dsimp only [Pt.U, Pt.locs, Pt.cells, Pt.slots] at X134 l134 y134 z134 st134 hQ134
        subst l134 y134 z134
        obtain ⟨h134, e134⟩ : ∃ h, T134.heap = h := ⟨_, rfl⟩
        rw [e134] at hQ134
        obtain ⟨rfl, Nq134, hs134⟩ := hQ134
        have N134 := Fr.app N128 Nq134
        rw [hs134] at e134
        refine Go.step st134 ?_
        show Go _ _ _ _ _ _ _ T134 (mkF m 463 #[.val (.int ish), .val (.int ind), .val (.int iln), .val (.int ie0), .val (.int ie1), .val (.int ie2), .val (.int vp3), .val (.int vp4), .val (.int (0 : Int32)), .val (.int vn), .val (.int (0 : Int32)), .val (.int (1 : Int32)), .val (.int (2 : Int32)), .val (.ref b73), .val (.ref b80), .val (.ref b85), .val (.ref b93), .val (.ref b101), .val (.ref a18), .val (.int (1 : Int32)), .val (.int c0), .val (.int c1), .val (.int c2), .val (.int c3), .val (.ref b121), .val (.int (if ([c0] : List Int32) = ls0.reverse then (1 : Int32) else 0))] [(.int (if le = ([c0] : List Int32) then (1 : Int32) else 0)), (.int (if ([c0] : List Int32) = ls0.reverse then (1 : Int32) else 0))])
        have hc463_136 : (if ([c0] : List Int32) = ls0.reverse then (1 : Int32) else 0) = (if le = ([c0] : List Int32) then (1 : Int32) else 0) := (own_fin hrv)
        refine Go.step (fun _ k => XS.icmpNo X134.here hx rfl (hb hby at_463) rfl (teq hc463_136).2 k) ?_
        show Go _ _ _ _ _ _ _ T134 (mkF m 466 #[.val (.int ish), .val (.int ind), .val (.int iln), .val (.int ie0), .val (.int ie1), .val (.int ie2), .val (.int vp3), .val (.int vp4), .val (.int (0 : Int32)), .val (.int vn), .val (.int (0 : Int32)), .val (.int (1 : Int32)), .val (.int (2 : Int32)), .val (.ref b73), .val (.ref b80), .val (.ref b85), .val (.ref b93), .val (.ref b101), .val (.ref a18), .val (.int (1 : Int32)), .val (.int c0), .val (.int c1), .val (.int c2), .val (.int c3), .val (.ref b121), .val (.int (if ([c0] : List Int32) = ls0.reverse then (1 : Int32) else 0))] [])
        refine Go.step (fun _ k => XS.iconst X134.here hx rfl (hb hby at_466) k) ?_
        refine Go.step (fun _ k => XS.goto X134.here hx rfl (pc0 := 467) (pc' := 471) rfl (hb hby at_467) (by decide) (by decide) k) ?_
        show Go _ _ _ _ _ _ _ T134 (mkF m 471 #[.val (.int ish), .val (.int ind), .val (.int iln), .val (.int ie0), .val (.int ie1), .val (.int ie2), .val (.int vp3), .val (.int vp4), .val (.int (0 : Int32)), .val (.int vn), .val (.int (0 : Int32)), .val (.int (1 : Int32)), .val (.int (2 : Int32)), .val (.ref b73), .val (.ref b80), .val (.ref b85), .val (.ref b93), .val (.ref b101), .val (.ref a18), .val (.int (1 : Int32)), .val (.int c0), .val (.int c1), .val (.int c2), .val (.int c3), .val (.ref b121), .val (.int (if ([c0] : List Int32) = ls0.reverse then (1 : Int32) else 0))] [(.int (1 : Int32))])
        exact Go.retN X134 hx (t := .boolean) hret hlk (by simp) (hb hby at_471) e134 (by decide) (by decide) ⟨rfl, N134, trivial⟩
      · show Go _ _ _ _ _ _ _ TJ (mkF m 390 #[.val (.int ish), .val (.int ind), .val (.int iln), .val (.int ie0), .val (.int ie1), .val (.int ie2), .val (.int vp3), .val (.int vp4), .val (.int (0 : Int32)), .val (.int vn), .val (.int (0 : Int32)), .val (.int (1 : Int32)), .val (.int (2 : Int32)), .val (.ref b73), .val (.ref b80), .val (.ref b85), .val (.ref b93), .val (.ref b101), .val (.ref a18), .val (.int (2 : Int32)), .val (.int c0), .val (.int c1), .val (.int c2), .val (.int c3), .unset, .unset] [])
        refine Go.step (fun _ k => XS.iload XJ.here hx rfl (hb hby at_390) rfl k) ?_
        obtain ⟨T137, h137, k137, X137, e137, E137, A137, st137⟩ := newP XJ hx hZ (hw _ (List.mem_of_getElem? (i := 5) rfl)) eJ (g := (mkF m 392 #[.val (.int ish), .val (.int ind), .val (.int iln), .val (.int ie0), .val (.int ie1), .val (.int ie2), .val (.int vp3), .val (.int vp4), .val (.int (0 : Int32)), .val (.int vn), .val (.int (0 : Int32)), .val (.int (1 : Int32)), .val (.int (2 : Int32)), .val (.ref b73), .val (.ref b80), .val (.ref b85), .val (.ref b93), .val (.ref b101), .val (.ref a18), .val (.int (2 : Int32)), .val (.int c0), .val (.int c1), .val (.int c2), .val (.int c3), .unset, .unset] [(.int (2 : Int32))])) rfl (hb hby at_392) rfl (by decide) (cap := 2) (by decide) (by decide) (by decide) (by decide)
        obtain ⟨b137, g137⟩ : ∃ z, z = hJ.size := ⟨_, rfl⟩
        rw [← g137] at A137 st137
        refine Go.step st137 ?_
        have g_b137 : n0 ≤ b137 := Nat.le_trans ZJ (Nat.le_of_eq g137.symm)
        have ne_a18_b137 : a18 ≠ b137 := Nat.ne_of_lt (Nat.lt_of_lt_of_le V8j.lt (Nat.le_of_eq g137.symm))
        have ne_b101_b137 : b101 ≠ b137 := Nat.ne_of_lt (Nat.lt_of_lt_of_le Ej.lt (Nat.le_of_eq g137.symm))
        have ne_b73_b137 : b73 ≠ b137 := Nat.ne_of_lt (Nat.lt_of_lt_of_le Vpj.lt (Nat.le_of_eq g137.symm))
        have ne_b80_b137 : b80 ≠ b137 := Nat.ne_of_lt (Nat.lt_of_lt_of_le Vtj.lt (Nat.le_of_eq g137.symm))
        have Z137 : n0 ≤ h137.size := Nat.le_trans ZJ E137.1
        have V137 : Arv Z h137 b137 k137 .int (2 : Int32) [] (.int (0 : Int32)) := Arv.new A137 (by decide)
        have V138 : Arv Z h137 b137 k137 .int (2 : Int32) [(.int (0 : Int32)), (.int (0 : Int32))] (.int (0 : Int32)) := (V137).pad (pad_rep [] (.int (0 : Int32)) 2)
        show Go _ _ _ _ _ _ _ T137 (mkF m 394 #[.val (.int ish), .val (.int ind), .val (.int iln), .val (.int ie0), .val (.int ie1), .val (.int ie2), .val (.int vp3), .val (.int vp4), .val (.int (0 : Int32)), .val (.int vn), .val (.int (0 : Int32)), .val (.int (1 : Int32)), .val (.int (2 : Int32)), .val (.ref b73), .val (.ref b80), .val (.ref b85), .val (.ref b93), .val (.ref b101), .val (.ref a18), .val (.int (2 : Int32)), .val (.int c0), .val (.int c1), .val (.int c2), .val (.int c3), .unset, .unset] [(.ref b137)])
        refine Go.step (fun _ k => XS.astore X137.here hx rfl (hb hby at_394) rfl rfl (l' := #[.val (.int ish), .val (.int ind), .val (.int iln), .val (.int ie0), .val (.int ie1), .val (.int ie2), .val (.int vp3), .val (.int vp4), .val (.int (0 : Int32)), .val (.int vn), .val (.int (0 : Int32)), .val (.int (1 : Int32)), .val (.int (2 : Int32)), .val (.ref b73), .val (.ref b80), .val (.ref b85), .val (.ref b93), .val (.ref b101), .val (.ref a18), .val (.int (2 : Int32)), .val (.int c0), .val (.int c1), .val (.int c2), .val (.int c3), .val (.ref b137), .unset]) rfl k) ?_
        show Go _ _ _ _ _ _ _ T137 (mkF m 396 #[.val (.int ish), .val (.int ind), .val (.int iln), .val (.int ie0), .val (.int ie1), .val (.int ie2), .val (.int vp3), .val (.int vp4), .val (.int (0 : Int32)), .val (.int vn), .val (.int (0 : Int32)), .val (.int (1 : Int32)), .val (.int (2 : Int32)), .val (.ref b73), .val (.ref b80), .val (.ref b85), .val (.ref b93), .val (.ref b101), .val (.ref a18), .val (.int (2 : Int32)), .val (.int c0), .val (.int c1), .val (.int c2), .val (.int c3), .val (.ref b137), .unset] [])
        refine Go.step (fun _ k => XS.iload X137.here hx rfl (hb hby at_396) rfl k) ?_
        have hc398_139 : (0 : Int32) < (2 : Int32) := (by decide)
        refine Go.step (fun _ k => XS.ifNo X137.here hx rfl (hb hby at_398) rfl ((if0 _ _).trans (tlt hc398_139).2.2.2) k) ?_
        show Go _ _ _ _ _ _ _ T137 (mkF m 401 #[.val (.int ish), .val (.int ind), .val (.int iln), .val (.int ie0), .val (.int ie1), .val (.int ie2), .val (.int vp3), .val (.int vp4), .val (.int (0 : Int32)), .val (.int vn), .val (.int (0 : Int32)), .val (.int (1 : Int32)), .val (.int (2 : Int32)), .val (.ref b73), .val (.ref b80), .val (.ref b85), .val (.ref b93), .val (.ref b101), .val (.ref a18), .val (.int (2 : Int32)), .val (.int c0), .val (.int c1), .val (.int c2), .val (.int c3), .val (.ref b137), .unset] [])
        refine Go.step (fun _ k => XS.aload X137.here hx rfl (hb hby at_401) rfl rfl k) ?_
        refine Go.step (fun _ k => XS.iconst X137.here hx rfl (hb hby at_403) k) ?_
        refine Go.step (fun _ k => XS.iload X137.here hx rfl (hb hby at_404) rfl k) ?_
        obtain ⟨cl140, Ar140, q140, S140, M140, H140, G140⟩ := id (V138)
        have hin140 : ¬ ((0 : Int32) < 0 ∨ cl140.slots.size ≤ ((0 : Int32)).toNatClampNeg) := inb_of S140 ⟨by decide, by decide⟩
        obtain ⟨T140, h140, X140, e140, W140, st140⟩ := stI X137 hx hZ e137 Ar140 (j := (0 : Int32)) hin140 (g := (mkF m 406 #[.val (.int ish), .val (.int ind), .val (.int iln), .val (.int ie0), .val (.int ie1), .val (.int ie2), .val (.int vp3), .val (.int vp4), .val (.int (0 : Int32)), .val (.int vn), .val (.int (0 : Int32)), .val (.int (1 : Int32)), .val (.int (2 : Int32)), .val (.ref b73), .val (.ref b80), .val (.ref b85), .val (.ref b93), .val (.ref b101), .val (.ref a18), .val (.int (2 : Int32)), .val (.int c0), .val (.int c1), .val (.int c2), .val (.int c3), .val (.ref b137), .unset] [(.int c0), (.int (0 : Int32)), (.ref b137)])) rfl rfl (hb hby at_406)
        refine Go.step st140 ?_
        have V140 : Arv Z h140 b137 k137 .int (2 : Int32) [(.int c0), (.int (0 : Int32))] (.int (0 : Int32)) := Arv.set Ar140 q140 S140 M140 H140 G140 rfl W140 0 rfl (Nat.le_of_ble_eq_true rfl)
        have N140 := Fr.snoc X140 NJ g_b137
        have Z140 : n0 ≤ h140.size := Nat.le_trans Z137 (Keep.of_wr W140).1
        show Go _ _ _ _ _ _ _ T140 (mkF m 407 #[.val (.int ish), .val (.int ind), .val (.int iln), .val (.int ie0), .val (.int ie1), .val (.int ie2), .val (.int vp3), .val (.int vp4), .val (.int (0 : Int32)), .val (.int vn), .val (.int (0 : Int32)), .val (.int (1 : Int32)), .val (.int (2 : Int32)), .val (.ref b73), .val (.ref b80), .val (.ref b85), .val (.ref b93), .val (.ref b101), .val (.ref a18), .val (.int (2 : Int32)), .val (.int c0), .val (.int c1), .val (.int c2), .val (.int c3), .val (.ref b137), .unset] [])
        refine Go.step (fun _ k => XS.iload X140.here hx rfl (hb hby at_407) rfl k) ?_
        refine Go.step (fun _ k => XS.iconst X140.here hx rfl (hb hby at_409) k) ?_
        have hc410_141 : (1 : Int32) < (2 : Int32) := (by decide)
        refine Go.step (fun _ k => XS.icmpNo X140.here hx rfl (hb hby at_410) rfl (tlt hc410_141).2.2.2 k) ?_
        show Go _ _ _ _ _ _ _ T140 (mkF m 413 #[.val (.int ish), .val (.int ind), .val (.int iln), .val (.int ie0), .val (.int ie1), .val (.int ie2), .val (.int vp3), .val (.int vp4), .val (.int (0 : Int32)), .val (.int vn), .val (.int (0 : Int32)), .val (.int (1 : Int32)), .val (.int (2 : Int32)), .val (.ref b73), .val (.ref b80), .val (.ref b85), .val (.ref b93), .val (.ref b101), .val (.ref a18), .val (.int (2 : Int32)), .val (.int c0), .val (.int c1), .val (.int c2), .val (.int c3), .val (.ref b137), .unset] [])
        refine Go.step (fun _ k => XS.aload X140.here hx rfl (hb hby at_413) rfl rfl k) ?_
        refine Go.step (fun _ k => XS.iconst X140.here hx rfl (hb hby at_415) k) ?_
        refine Go.step (fun _ k => XS.iload X140.here hx rfl (hb hby at_416) rfl k) ?_
        obtain ⟨cl142, Ar142, q142, S142, M142, H142, G142⟩ := id (V140)
        have hin142 : ¬ ((1 : Int32) < 0 ∨ cl142.slots.size ≤ ((1 : Int32)).toNatClampNeg) := inb_of S142 ⟨by decide, by decide⟩
        obtain ⟨T142, h142, X142, e142, W142, st142⟩ := stI X140 hx hZ e140 Ar142 (j := (1 : Int32)) hin142 (g := (mkF m 418 #[.val (.int ish), .val (.int ind), .val (.int iln), .val (.int ie0), .val (.int ie1), .val (.int ie2), .val (.int vp3), .val (.int vp4), .val (.int (0 : Int32)), .val (.int vn), .val (.int (0 : Int32)), .val (.int (1 : Int32)), .val (.int (2 : Int32)), .val (.ref b73), .val (.ref b80), .val (.ref b85), .val (.ref b93), .val (.ref b101), .val (.ref a18), .val (.int (2 : Int32)), .val (.int c0), .val (.int c1), .val (.int c2), .val (.int c3), .val (.ref b137), .unset] [(.int c1), (.int (1 : Int32)), (.ref b137)])) rfl rfl (hb hby at_418)
        refine Go.step st142 ?_
        have V142 : Arv Z h142 b137 k137 .int (2 : Int32) [(.int c0), (.int c1)] (.int (0 : Int32)) := Arv.set Ar142 q142 S142 M142 H142 G142 rfl W142 1 rfl (Nat.le_of_ble_eq_true rfl)
        have N142 := Fr.snoc X142 N140 g_b137
        have Z142 : n0 ≤ h142.size := Nat.le_trans Z140 (Keep.of_wr W142).1
        show Go _ _ _ _ _ _ _ T142 (mkF m 419 #[.val (.int ish), .val (.int ind), .val (.int iln), .val (.int ie0), .val (.int ie1), .val (.int ie2), .val (.int vp3), .val (.int vp4), .val (.int (0 : Int32)), .val (.int vn), .val (.int (0 : Int32)), .val (.int (1 : Int32)), .val (.int (2 : Int32)), .val (.ref b73), .val (.ref b80), .val (.ref b85), .val (.ref b93), .val (.ref b101), .val (.ref a18), .val (.int (2 : Int32)), .val (.int c0), .val (.int c1), .val (.int c2), .val (.int c3), .val (.ref b137), .unset] [])
        refine Go.step (fun _ k => XS.iload X142.here hx rfl (hb hby at_419) rfl k) ?_
        refine Go.step (fun _ k => XS.iconst X142.here hx rfl (hb hby at_421) k) ?_
        have hc422_143 : ¬ ((2 : Int32) < (2 : Int32)) := (by decide)
        refine Go.step (fun _ k => XS.icmpYes X142.here hx rfl (pc0 := 422) (pc' := 431) rfl (hb hby at_422) rfl (flt hc422_143).2.2.2 (by decide) (by decide) k) ?_
        show Go _ _ _ _ _ _ _ T142 (mkF m 431 #[.val (.int ish), .val (.int ind), .val (.int iln), .val (.int ie0), .val (.int ie1), .val (.int ie2), .val (.int vp3), .val (.int vp4), .val (.int (0 : Int32)), .val (.int vn), .val (.int (0 : Int32)), .val (.int (1 : Int32)), .val (.int (2 : Int32)), .val (.ref b73), .val (.ref b80), .val (.ref b85), .val (.ref b93), .val (.ref b101), .val (.ref a18), .val (.int (2 : Int32)), .val (.int c0), .val (.int c1), .val (.int c2), .val (.int c3), .val (.ref b137), .unset] [])
        refine Go.step (fun _ k => XS.iload X142.here hx rfl (hb hby at_431) rfl k) ?_
        refine Go.step (fun _ k => XS.iconst X142.here hx rfl (hb hby at_433) k) ?_
        have hc434_144 : ¬ ((3 : Int32) < (2 : Int32)) := (by decide)
        refine Go.step (fun _ k => XS.icmpYes X142.here hx rfl (pc0 := 434) (pc' := 443) rfl (hb hby at_434) rfl (flt hc434_144).2.2.2 (by decide) (by decide) k) ?_
        show Go _ _ _ _ _ _ _ T142 (mkF m 443 #[.val (.int ish), .val (.int ind), .val (.int iln), .val (.int ie0), .val (.int ie1), .val (.int ie2), .val (.int vp3), .val (.int vp4), .val (.int (0 : Int32)), .val (.int vn), .val (.int (0 : Int32)), .val (.int (1 : Int32)), .val (.int (2 : Int32)), .val (.ref b73), .val (.ref b80), .val (.ref b85), .val (.ref b93), .val (.ref b101), .val (.ref a18), .val (.int (2 : Int32)), .val (.int c0), .val (.int c1), .val (.int c2), .val (.int c3), .val (.ref b137), .unset] [])
        refine Go.step (fun _ k => XS.aload X142.here hx rfl (hb hby at_443) rfl rfl k) ?_
        refine Go.step (fun _ k => XS.iload X142.here hx rfl (hb hby at_445) rfl k) ?_
        refine Go.step (fun _ k => XS.aload X142.here hx rfl (hb hby at_447) rfl rfl k) ?_
        have f146 : Exa Z h142 b101 "com/example/wayfront/wayfront/paths/ShortestPathTree" := (((Ej.ext E137).wr W140).wr W142)
        have f147 : Fld Z h142 b101 "com/example/wayfront/wayfront/paths/ShortestPathTree" "predecessor" "[I" (.ref b73) := (((Fpj.ext E137).other W140 (Or.inl ne_b101_b137)).other W142 (Or.inl ne_b101_b137))
        have f148 : Fld Z h142 b101 "com/example/wayfront/wayfront/paths/ShortestPathTree" "tail" "[I" (.ref b80) := (((Ftj.ext E137).other W140 (Or.inl ne_b101_b137)).other W142 (Or.inl ne_b101_b137))
        have f149 : Arv Z h142 b73 k73 .int (5 : Int32) [(.int (-1 : Int32)), (.int (-1 : Int32)), (.int (0 : Int32)), (.int (1 : Int32)), (.int (2 : Int32))] (.int (0 : Int32)) := (((Vpj.ext E137).other W140 ne_b73_b137).other W142 ne_b73_b137)
        have f150 : Arv Z h142 b80 k80 .int (3 : Int32) [(.int (1 : Int32)), (.int vp3), (.int vp4)] (.int (0 : Int32)) := (((Vtj.ext E137).other W140 ne_b80_b137).other W142 ne_b80_b137)
        obtain ⟨cq145, kq145, q145a, q145b, q145c⟩ := isOf hZ e142 f146
        obtain ⟨_, _, ⟨T145, L145, k145, n145⟩, -, X145, ⟨Lc145, hQ145, l145, y145, z145⟩, st145⟩ := X142.virtualBack hx (y := (⟨"com/example/wayfront/wayfront/paths/ShortestPathTree", "isPathTo", "(I[I)Z"⟩ : MethodName)) (z := (⟨"com/example/wayfront/wayfront/paths/ShortestPathTree", "isPathTo", "(I[I)Z"⟩ : MethodName)) hown (mvT hZ (hw _ (List.mem_of_getElem? (i := 28) rfl))) (mvT hZ (hw _ (List.mem_of_getElem? (i := 29) rfl))) (notFace_of_selects (args := #[]) (mvT hZ (hw _ (List.mem_of_getElem? (i := 31) rfl)))) (mvT hZ (hw _ (List.mem_of_getElem? (i := 31) rfl))) (mvT hZ (hw _ (List.mem_of_getElem? (i := 30) rfl))) (by decide) (backOf (W := 0) (rmIs l Z a0 hw [] b101 vn b137 b73 k73 ([(-1 : Int32), (-1 : Int32), (0 : Int32), (1 : Int32), (2 : Int32)] : List Int32) b80 k80 ([(1 : Int32), vp3, vp4] : List Int32) k137 (2 : Int32) ([c0, c1] : List Int32) ls0 h142 n0 Z142 f146 f147 f148 f149 f150 V142 rfl rfl rfl (by decide) hchj) hZ (hw _ (List.mem_of_getElem? (i := 32) rfl)) (hw _ (List.mem_of_getElem? (i := 11) rfl)) (by decide) (by decide)) q145a q145c (g := (mkF m 449 #[.val (.int ish), .val (.int ind), .val (.int iln), .val (.int ie0), .val (.int ie1), .val (.int ie2), .val (.int vp3), .val (.int vp4), .val (.int (0 : Int32)), .val (.int vn), .val (.int (0 : Int32)), .val (.int (1 : Int32)), .val (.int (2 : Int32)), .val (.ref b73), .val (.ref b80), .val (.ref b85), .val (.ref b93), .val (.ref b101), .val (.ref a18), .val (.int (2 : Int32)), .val (.int c0), .val (.int c1), .val (.int c2), .val (.int c3), .val (.ref b137), .unset] [(.ref b137), (.int vn), (.ref b101)])) rfl (by rw [hml]; rfl) (Steps.refl _) (argsL := [(.int vn), (.ref b137)]) (rest := []) (lenOf pd__I_I_Z rfl) rfl (by show 2 * 0 + _ ≤ _; exact Nat.le_of_eq rfl) (hb hby at_449) (fun _ _ => ⟨rfl, e142, (by decide : 7 + 0 ≤ _), (by decide : 27 + 0 ≤ _)⟩)
        dsimp only [Pt.U, Pt.locs, Pt.cells, Pt.slots] at X145 l145 y145 z145 st145 hQ145
        subst l145 y145 z145
        obtain ⟨h145, e145⟩ : ∃ h, T145.heap = h := ⟨_, rfl⟩
        rw [e145] at hQ145
        obtain ⟨rfl, Nq145, hs145⟩ := hQ145
        have N145 := Fr.app N142 Nq145
        rw [hs145] at e145
        refine Go.trans st145 ?_
        show Go _ _ _ _ _ _ _ T145 (mkF m 452 #[.val (.int ish), .val (.int ind), .val (.int iln), .val (.int ie0), .val (.int ie1), .val (.int ie2), .val (.int vp3), .val (.int vp4), .val (.int (0 : Int32)), .val (.int vn), .val (.int (0 : Int32)), .val (.int (1 : Int32)), .val (.int (2 : Int32)), .val (.ref b73), .val (.ref b80), .val (.ref b85), .val (.ref b93), .val (.ref b101), .val (.ref a18), .val (.int (2 : Int32)), .val (.int c0), .val (.int c1), .val (.int c2), .val (.int c3), .val (.ref b137), .unset] [(.int (if ([c0, c1] : List Int32) = ls0.reverse then (1 : Int32) else 0))])
        refine Go.step (fun _ k => XS.istore X145.here hx rfl (hb hby at_452) rfl (l' := #[.val (.int ish), .val (.int ind), .val (.int iln), .val (.int ie0), .val (.int ie1), .val (.int ie2), .val (.int vp3), .val (.int vp4), .val (.int (0 : Int32)), .val (.int vn), .val (.int (0 : Int32)), .val (.int (1 : Int32)), .val (.int (2 : Int32)), .val (.ref b73), .val (.ref b80), .val (.ref b85), .val (.ref b93), .val (.ref b101), .val (.ref a18), .val (.int (2 : Int32)), .val (.int c0), .val (.int c1), .val (.int c2), .val (.int c3), .val (.ref b137), .val (.int (if ([c0, c1] : List Int32) = ls0.reverse then (1 : Int32) else 0))]) rfl k) ?_
        show Go _ _ _ _ _ _ _ T145 (mkF m 454 #[.val (.int ish), .val (.int ind), .val (.int iln), .val (.int ie0), .val (.int ie1), .val (.int ie2), .val (.int vp3), .val (.int vp4), .val (.int (0 : Int32)), .val (.int vn), .val (.int (0 : Int32)), .val (.int (1 : Int32)), .val (.int (2 : Int32)), .val (.ref b73), .val (.ref b80), .val (.ref b85), .val (.ref b93), .val (.ref b101), .val (.ref a18), .val (.int (2 : Int32)), .val (.int c0), .val (.int c1), .val (.int c2), .val (.int c3), .val (.ref b137), .val (.int (if ([c0, c1] : List Int32) = ls0.reverse then (1 : Int32) else 0))] [])
        refine Go.step (fun _ k => XS.iload X145.here hx rfl (hb hby at_454) rfl k) ?_
        refine Go.step (fun _ k => XS.aload X145.here hx rfl (hb hby at_456) rfl rfl k) ?_
        refine Go.step (fun _ k => XS.aload X145.here hx rfl (hb hby at_458) rfl rfl k) ?_
        have f152 : Arv Z h142 a18 k18 .int n18 (le.map Value.int) (.int (0 : Int32)) := (((V8j.ext E137).other W140 ne_a18_b137).other W142 ne_a18_b137)
        obtain ⟨_, _, ⟨T151, L151, k151, n151⟩, -, X151, ⟨Lc151, hQ151, l151, y151, z151⟩, st151⟩ := Jvm.LawKit.callS X145 hx (y := (⟨"com/example/wayfront/wayfront/paths/ShortestPathTreeIsPathToPinLaw", "same", "([I[I)Z"⟩ : MethodName)) hown (mvT hZ (hw _ (List.mem_of_getElem? (i := 33) rfl))) (mvT hZ (hw _ (List.mem_of_getElem? (i := 34) rfl))) (mvT hZ (hw _ (List.mem_of_getElem? (i := 3) rfl))) (mvT hZ (hw _ (List.mem_of_getElem? (i := 35) rfl))) (by decide) (backOf (W := 1) (rmSa l Z a0 hw [] a18 b137 k18 n18 le k137 (2 : Int32) ([c0, c1] : List Int32) h142 n0 Z142 f152 V142 hle hn8 rfl (by decide) h48) hZ (hw _ (List.mem_of_getElem? (i := 35) rfl)) (hw _ (List.mem_of_getElem? (i := 3) rfl)) (by decide) (by decide)) (g := (mkF m 460 #[.val (.int ish), .val (.int ind), .val (.int iln), .val (.int ie0), .val (.int ie1), .val (.int ie2), .val (.int vp3), .val (.int vp4), .val (.int (0 : Int32)), .val (.int vn), .val (.int (0 : Int32)), .val (.int (1 : Int32)), .val (.int (2 : Int32)), .val (.ref b73), .val (.ref b80), .val (.ref b85), .val (.ref b93), .val (.ref b101), .val (.ref a18), .val (.int (2 : Int32)), .val (.int c0), .val (.int c1), .val (.int c2), .val (.int c3), .val (.ref b137), .val (.int (if ([c0, c1] : List Int32) = ls0.reverse then (1 : Int32) else 0))] [(.ref b137), (.ref a18), (.int (if ([c0, c1] : List Int32) = ls0.reverse then (1 : Int32) else 0))])) rfl (by rw [hml]; rfl) (argsL := [(.ref a18), (.ref b137)]) (rest := [(.int (if ([c0, c1] : List Int32) = ls0.reverse then (1 : Int32) else 0))]) (lenOf pd___I_I_Z rfl) rfl (by show 2 * 0 + _ ≤ _; exact Nat.le_of_eq rfl) (hb hby at_460) (fun _ _ => ⟨rfl, e145, (by decide : 7 + 0 ≤ _), (by decide : 27 + 0 ≤ _)⟩)
        dsimp only [Pt.U, Pt.locs, Pt.cells, Pt.slots] at X151 l151 y151 z151 st151 hQ151
        subst l151 y151 z151
        obtain ⟨h151, e151⟩ : ∃ h, T151.heap = h := ⟨_, rfl⟩
        rw [e151] at hQ151
        obtain ⟨rfl, Nq151, hs151⟩ := hQ151
        have N151 := Fr.app N145 Nq151
        rw [hs151] at e151
        refine Go.step st151 ?_
        show Go _ _ _ _ _ _ _ T151 (mkF m 463 #[.val (.int ish), .val (.int ind), .val (.int iln), .val (.int ie0), .val (.int ie1), .val (.int ie2), .val (.int vp3), .val (.int vp4), .val (.int (0 : Int32)), .val (.int vn), .val (.int (0 : Int32)), .val (.int (1 : Int32)), .val (.int (2 : Int32)), .val (.ref b73), .val (.ref b80), .val (.ref b85), .val (.ref b93), .val (.ref b101), .val (.ref a18), .val (.int (2 : Int32)), .val (.int c0), .val (.int c1), .val (.int c2), .val (.int c3), .val (.ref b137), .val (.int (if ([c0, c1] : List Int32) = ls0.reverse then (1 : Int32) else 0))] [(.int (if le = ([c0, c1] : List Int32) then (1 : Int32) else 0)), (.int (if ([c0, c1] : List Int32) = ls0.reverse then (1 : Int32) else 0))])
        have hc463_153 : (if ([c0, c1] : List Int32) = ls0.reverse then (1 : Int32) else 0) = (if le = ([c0, c1] : List Int32) then (1 : Int32) else 0) := (own_fin hrv)
        refine Go.step (fun _ k => XS.icmpNo X151.here hx rfl (hb hby at_463) rfl (teq hc463_153).2 k) ?_
        show Go _ _ _ _ _ _ _ T151 (mkF m 466 #[.val (.int ish), .val (.int ind), .val (.int iln), .val (.int ie0), .val (.int ie1), .val (.int ie2), .val (.int vp3), .val (.int vp4), .val (.int (0 : Int32)), .val (.int vn), .val (.int (0 : Int32)), .val (.int (1 : Int32)), .val (.int (2 : Int32)), .val (.ref b73), .val (.ref b80), .val (.ref b85), .val (.ref b93), .val (.ref b101), .val (.ref a18), .val (.int (2 : Int32)), .val (.int c0), .val (.int c1), .val (.int c2), .val (.int c3), .val (.ref b137), .val (.int (if ([c0, c1] : List Int32) = ls0.reverse then (1 : Int32) else 0))] [])
        refine Go.step (fun _ k => XS.iconst X151.here hx rfl (hb hby at_466) k) ?_
        refine Go.step (fun _ k => XS.goto X151.here hx rfl (pc0 := 467) (pc' := 471) rfl (hb hby at_467) (by decide) (by decide) k) ?_
        show Go _ _ _ _ _ _ _ T151 (mkF m 471 #[.val (.int ish), .val (.int ind), .val (.int iln), .val (.int ie0), .val (.int ie1), .val (.int ie2), .val (.int vp3), .val (.int vp4), .val (.int (0 : Int32)), .val (.int vn), .val (.int (0 : Int32)), .val (.int (1 : Int32)), .val (.int (2 : Int32)), .val (.ref b73), .val (.ref b80), .val (.ref b85), .val (.ref b93), .val (.ref b101), .val (.ref a18), .val (.int (2 : Int32)), .val (.int c0), .val (.int c1), .val (.int c2), .val (.int c3), .val (.ref b137), .val (.int (if ([c0, c1] : List Int32) = ls0.reverse then (1 : Int32) else 0))] [(.int (1 : Int32))])
        exact Go.retN X151 hx (t := .boolean) hret hlk (by simp) (hb hby at_471) e151 (by decide) (by decide) ⟨rfl, N151, trivial⟩
      · show Go _ _ _ _ _ _ _ TJ (mkF m 390 #[.val (.int ish), .val (.int ind), .val (.int iln), .val (.int ie0), .val (.int ie1), .val (.int ie2), .val (.int vp3), .val (.int vp4), .val (.int (0 : Int32)), .val (.int vn), .val (.int (0 : Int32)), .val (.int (1 : Int32)), .val (.int (2 : Int32)), .val (.ref b73), .val (.ref b80), .val (.ref b85), .val (.ref b93), .val (.ref b101), .val (.ref a18), .val (.int (3 : Int32)), .val (.int c0), .val (.int c1), .val (.int c2), .val (.int c3), .unset, .unset] [])
        refine Go.step (fun _ k => XS.iload XJ.here hx rfl (hb hby at_390) rfl k) ?_
        obtain ⟨T154, h154, k154, X154, e154, E154, A154, st154⟩ := newP XJ hx hZ (hw _ (List.mem_of_getElem? (i := 5) rfl)) eJ (g := (mkF m 392 #[.val (.int ish), .val (.int ind), .val (.int iln), .val (.int ie0), .val (.int ie1), .val (.int ie2), .val (.int vp3), .val (.int vp4), .val (.int (0 : Int32)), .val (.int vn), .val (.int (0 : Int32)), .val (.int (1 : Int32)), .val (.int (2 : Int32)), .val (.ref b73), .val (.ref b80), .val (.ref b85), .val (.ref b93), .val (.ref b101), .val (.ref a18), .val (.int (3 : Int32)), .val (.int c0), .val (.int c1), .val (.int c2), .val (.int c3), .unset, .unset] [(.int (3 : Int32))])) rfl (hb hby at_392) rfl (by decide) (cap := 3) (by decide) (by decide) (by decide) (by decide)
        obtain ⟨b154, g154⟩ : ∃ z, z = hJ.size := ⟨_, rfl⟩
        rw [← g154] at A154 st154
        refine Go.step st154 ?_
        have g_b154 : n0 ≤ b154 := Nat.le_trans ZJ (Nat.le_of_eq g154.symm)
        have ne_a18_b154 : a18 ≠ b154 := Nat.ne_of_lt (Nat.lt_of_lt_of_le V8j.lt (Nat.le_of_eq g154.symm))
        have ne_b101_b154 : b101 ≠ b154 := Nat.ne_of_lt (Nat.lt_of_lt_of_le Ej.lt (Nat.le_of_eq g154.symm))
        have ne_b73_b154 : b73 ≠ b154 := Nat.ne_of_lt (Nat.lt_of_lt_of_le Vpj.lt (Nat.le_of_eq g154.symm))
        have ne_b80_b154 : b80 ≠ b154 := Nat.ne_of_lt (Nat.lt_of_lt_of_le Vtj.lt (Nat.le_of_eq g154.symm))
        have Z154 : n0 ≤ h154.size := Nat.le_trans ZJ E154.1
        have V154 : Arv Z h154 b154 k154 .int (3 : Int32) [] (.int (0 : Int32)) := Arv.new A154 (by decide)
        have V155 : Arv Z h154 b154 k154 .int (3 : Int32) [(.int (0 : Int32)), (.int (0 : Int32)), (.int (0 : Int32))] (.int (0 : Int32)) := (V154).pad (pad_rep [] (.int (0 : Int32)) 3)
        show Go _ _ _ _ _ _ _ T154 (mkF m 394 #[.val (.int ish), .val (.int ind), .val (.int iln), .val (.int ie0), .val (.int ie1), .val (.int ie2), .val (.int vp3), .val (.int vp4), .val (.int (0 : Int32)), .val (.int vn), .val (.int (0 : Int32)), .val (.int (1 : Int32)), .val (.int (2 : Int32)), .val (.ref b73), .val (.ref b80), .val (.ref b85), .val (.ref b93), .val (.ref b101), .val (.ref a18), .val (.int (3 : Int32)), .val (.int c0), .val (.int c1), .val (.int c2), .val (.int c3), .unset, .unset] [(.ref b154)])
        refine Go.step (fun _ k => XS.astore X154.here hx rfl (hb hby at_394) rfl rfl (l' := #[.val (.int ish), .val (.int ind), .val (.int iln), .val (.int ie0), .val (.int ie1), .val (.int ie2), .val (.int vp3), .val (.int vp4), .val (.int (0 : Int32)), .val (.int vn), .val (.int (0 : Int32)), .val (.int (1 : Int32)), .val (.int (2 : Int32)), .val (.ref b73), .val (.ref b80), .val (.ref b85), .val (.ref b93), .val (.ref b101), .val (.ref a18), .val (.int (3 : Int32)), .val (.int c0), .val (.int c1), .val (.int c2), .val (.int c3), .val (.ref b154), .unset]) rfl k) ?_
        show Go _ _ _ _ _ _ _ T154 (mkF m 396 #[.val (.int ish), .val (.int ind), .val (.int iln), .val (.int ie0), .val (.int ie1), .val (.int ie2), .val (.int vp3), .val (.int vp4), .val (.int (0 : Int32)), .val (.int vn), .val (.int (0 : Int32)), .val (.int (1 : Int32)), .val (.int (2 : Int32)), .val (.ref b73), .val (.ref b80), .val (.ref b85), .val (.ref b93), .val (.ref b101), .val (.ref a18), .val (.int (3 : Int32)), .val (.int c0), .val (.int c1), .val (.int c2), .val (.int c3), .val (.ref b154), .unset] [])
        refine Go.step (fun _ k => XS.iload X154.here hx rfl (hb hby at_396) rfl k) ?_
        have hc398_156 : (0 : Int32) < (3 : Int32) := (by decide)
        refine Go.step (fun _ k => XS.ifNo X154.here hx rfl (hb hby at_398) rfl ((if0 _ _).trans (tlt hc398_156).2.2.2) k) ?_
        show Go _ _ _ _ _ _ _ T154 (mkF m 401 #[.val (.int ish), .val (.int ind), .val (.int iln), .val (.int ie0), .val (.int ie1), .val (.int ie2), .val (.int vp3), .val (.int vp4), .val (.int (0 : Int32)), .val (.int vn), .val (.int (0 : Int32)), .val (.int (1 : Int32)), .val (.int (2 : Int32)), .val (.ref b73), .val (.ref b80), .val (.ref b85), .val (.ref b93), .val (.ref b101), .val (.ref a18), .val (.int (3 : Int32)), .val (.int c0), .val (.int c1), .val (.int c2), .val (.int c3), .val (.ref b154), .unset] [])
        refine Go.step (fun _ k => XS.aload X154.here hx rfl (hb hby at_401) rfl rfl k) ?_
        refine Go.step (fun _ k => XS.iconst X154.here hx rfl (hb hby at_403) k) ?_
        refine Go.step (fun _ k => XS.iload X154.here hx rfl (hb hby at_404) rfl k) ?_
        obtain ⟨cl157, Ar157, q157, S157, M157, H157, G157⟩ := id (V155)
        have hin157 : ¬ ((0 : Int32) < 0 ∨ cl157.slots.size ≤ ((0 : Int32)).toNatClampNeg) := inb_of S157 ⟨by decide, by decide⟩
        obtain ⟨T157, h157, X157, e157, W157, st157⟩ := stI X154 hx hZ e154 Ar157 (j := (0 : Int32)) hin157 (g := (mkF m 406 #[.val (.int ish), .val (.int ind), .val (.int iln), .val (.int ie0), .val (.int ie1), .val (.int ie2), .val (.int vp3), .val (.int vp4), .val (.int (0 : Int32)), .val (.int vn), .val (.int (0 : Int32)), .val (.int (1 : Int32)), .val (.int (2 : Int32)), .val (.ref b73), .val (.ref b80), .val (.ref b85), .val (.ref b93), .val (.ref b101), .val (.ref a18), .val (.int (3 : Int32)), .val (.int c0), .val (.int c1), .val (.int c2), .val (.int c3), .val (.ref b154), .unset] [(.int c0), (.int (0 : Int32)), (.ref b154)])) rfl rfl (hb hby at_406)
        refine Go.step st157 ?_
        have V157 : Arv Z h157 b154 k154 .int (3 : Int32) [(.int c0), (.int (0 : Int32)), (.int (0 : Int32))] (.int (0 : Int32)) := Arv.set Ar157 q157 S157 M157 H157 G157 rfl W157 0 rfl (Nat.le_of_ble_eq_true rfl)
        have N157 := Fr.snoc X157 NJ g_b154
        have Z157 : n0 ≤ h157.size := Nat.le_trans Z154 (Keep.of_wr W157).1
        show Go _ _ _ _ _ _ _ T157 (mkF m 407 #[.val (.int ish), .val (.int ind), .val (.int iln), .val (.int ie0), .val (.int ie1), .val (.int ie2), .val (.int vp3), .val (.int vp4), .val (.int (0 : Int32)), .val (.int vn), .val (.int (0 : Int32)), .val (.int (1 : Int32)), .val (.int (2 : Int32)), .val (.ref b73), .val (.ref b80), .val (.ref b85), .val (.ref b93), .val (.ref b101), .val (.ref a18), .val (.int (3 : Int32)), .val (.int c0), .val (.int c1), .val (.int c2), .val (.int c3), .val (.ref b154), .unset] [])
        refine Go.step (fun _ k => XS.iload X157.here hx rfl (hb hby at_407) rfl k) ?_
        refine Go.step (fun _ k => XS.iconst X157.here hx rfl (hb hby at_409) k) ?_
        have hc410_158 : (1 : Int32) < (3 : Int32) := (by decide)
        refine Go.step (fun _ k => XS.icmpNo X157.here hx rfl (hb hby at_410) rfl (tlt hc410_158).2.2.2 k) ?_
        show Go _ _ _ _ _ _ _ T157 (mkF m 413 #[.val (.int ish), .val (.int ind), .val (.int iln), .val (.int ie0), .val (.int ie1), .val (.int ie2), .val (.int vp3), .val (.int vp4), .val (.int (0 : Int32)), .val (.int vn), .val (.int (0 : Int32)), .val (.int (1 : Int32)), .val (.int (2 : Int32)), .val (.ref b73), .val (.ref b80), .val (.ref b85), .val (.ref b93), .val (.ref b101), .val (.ref a18), .val (.int (3 : Int32)), .val (.int c0), .val (.int c1), .val (.int c2), .val (.int c3), .val (.ref b154), .unset] [])
        refine Go.step (fun _ k => XS.aload X157.here hx rfl (hb hby at_413) rfl rfl k) ?_
        refine Go.step (fun _ k => XS.iconst X157.here hx rfl (hb hby at_415) k) ?_
        refine Go.step (fun _ k => XS.iload X157.here hx rfl (hb hby at_416) rfl k) ?_
        obtain ⟨cl159, Ar159, q159, S159, M159, H159, G159⟩ := id (V157)
        have hin159 : ¬ ((1 : Int32) < 0 ∨ cl159.slots.size ≤ ((1 : Int32)).toNatClampNeg) := inb_of S159 ⟨by decide, by decide⟩
        obtain ⟨T159, h159, X159, e159, W159, st159⟩ := stI X157 hx hZ e157 Ar159 (j := (1 : Int32)) hin159 (g := (mkF m 418 #[.val (.int ish), .val (.int ind), .val (.int iln), .val (.int ie0), .val (.int ie1), .val (.int ie2), .val (.int vp3), .val (.int vp4), .val (.int (0 : Int32)), .val (.int vn), .val (.int (0 : Int32)), .val (.int (1 : Int32)), .val (.int (2 : Int32)), .val (.ref b73), .val (.ref b80), .val (.ref b85), .val (.ref b93), .val (.ref b101), .val (.ref a18), .val (.int (3 : Int32)), .val (.int c0), .val (.int c1), .val (.int c2), .val (.int c3), .val (.ref b154), .unset] [(.int c1), (.int (1 : Int32)), (.ref b154)])) rfl rfl (hb hby at_418)
        refine Go.step st159 ?_
        have V159 : Arv Z h159 b154 k154 .int (3 : Int32) [(.int c0), (.int c1), (.int (0 : Int32))] (.int (0 : Int32)) := Arv.set Ar159 q159 S159 M159 H159 G159 rfl W159 1 rfl (Nat.le_of_ble_eq_true rfl)
        have N159 := Fr.snoc X159 N157 g_b154
        have Z159 : n0 ≤ h159.size := Nat.le_trans Z157 (Keep.of_wr W159).1
        show Go _ _ _ _ _ _ _ T159 (mkF m 419 #[.val (.int ish), .val (.int ind), .val (.int iln), .val (.int ie0), .val (.int ie1), .val (.int ie2), .val (.int vp3), .val (.int vp4), .val (.int (0 : Int32)), .val (.int vn), .val (.int (0 : Int32)), .val (.int (1 : Int32)), .val (.int (2 : Int32)), .val (.ref b73), .val (.ref b80), .val (.ref b85), .val (.ref b93), .val (.ref b101), .val (.ref a18), .val (.int (3 : Int32)), .val (.int c0), .val (.int c1), .val (.int c2), .val (.int c3), .val (.ref b154), .unset] [])
        refine Go.step (fun _ k => XS.iload X159.here hx rfl (hb hby at_419) rfl k) ?_
        refine Go.step (fun _ k => XS.iconst X159.here hx rfl (hb hby at_421) k) ?_
        have hc422_160 : (2 : Int32) < (3 : Int32) := (by decide)
        refine Go.step (fun _ k => XS.icmpNo X159.here hx rfl (hb hby at_422) rfl (tlt hc422_160).2.2.2 k) ?_
        show Go _ _ _ _ _ _ _ T159 (mkF m 425 #[.val (.int ish), .val (.int ind), .val (.int iln), .val (.int ie0), .val (.int ie1), .val (.int ie2), .val (.int vp3), .val (.int vp4), .val (.int (0 : Int32)), .val (.int vn), .val (.int (0 : Int32)), .val (.int (1 : Int32)), .val (.int (2 : Int32)), .val (.ref b73), .val (.ref b80), .val (.ref b85), .val (.ref b93), .val (.ref b101), .val (.ref a18), .val (.int (3 : Int32)), .val (.int c0), .val (.int c1), .val (.int c2), .val (.int c3), .val (.ref b154), .unset] [])
        refine Go.step (fun _ k => XS.aload X159.here hx rfl (hb hby at_425) rfl rfl k) ?_
        refine Go.step (fun _ k => XS.iconst X159.here hx rfl (hb hby at_427) k) ?_
        refine Go.step (fun _ k => XS.iload X159.here hx rfl (hb hby at_428) rfl k) ?_
        obtain ⟨cl161, Ar161, q161, S161, M161, H161, G161⟩ := id (V159)
        have hin161 : ¬ ((2 : Int32) < 0 ∨ cl161.slots.size ≤ ((2 : Int32)).toNatClampNeg) := inb_of S161 ⟨by decide, by decide⟩
        obtain ⟨T161, h161, X161, e161, W161, st161⟩ := stI X159 hx hZ e159 Ar161 (j := (2 : Int32)) hin161 (g := (mkF m 430 #[.val (.int ish), .val (.int ind), .val (.int iln), .val (.int ie0), .val (.int ie1), .val (.int ie2), .val (.int vp3), .val (.int vp4), .val (.int (0 : Int32)), .val (.int vn), .val (.int (0 : Int32)), .val (.int (1 : Int32)), .val (.int (2 : Int32)), .val (.ref b73), .val (.ref b80), .val (.ref b85), .val (.ref b93), .val (.ref b101), .val (.ref a18), .val (.int (3 : Int32)), .val (.int c0), .val (.int c1), .val (.int c2), .val (.int c3), .val (.ref b154), .unset] [(.int c2), (.int (2 : Int32)), (.ref b154)])) rfl rfl (hb hby at_430)
        refine Go.step st161 ?_
        have V161 : Arv Z h161 b154 k154 .int (3 : Int32) [(.int c0), (.int c1), (.int c2)] (.int (0 : Int32)) := Arv.set Ar161 q161 S161 M161 H161 G161 rfl W161 2 rfl (Nat.le_of_ble_eq_true rfl)
        have N161 := Fr.snoc X161 N159 g_b154
        have Z161 : n0 ≤ h161.size := Nat.le_trans Z159 (Keep.of_wr W161).1
        show Go _ _ _ _ _ _ _ T161 (mkF m 431 #[.val (.int ish), .val (.int ind), .val (.int iln), .val (.int ie0), .val (.int ie1), .val (.int ie2), .val (.int vp3), .val (.int vp4), .val (.int (0 : Int32)), .val (.int vn), .val (.int (0 : Int32)), .val (.int (1 : Int32)), .val (.int (2 : Int32)), .val (.ref b73), .val (.ref b80), .val (.ref b85), .val (.ref b93), .val (.ref b101), .val (.ref a18), .val (.int (3 : Int32)), .val (.int c0), .val (.int c1), .val (.int c2), .val (.int c3), .val (.ref b154), .unset] [])
        refine Go.step (fun _ k => XS.iload X161.here hx rfl (hb hby at_431) rfl k) ?_
        refine Go.step (fun _ k => XS.iconst X161.here hx rfl (hb hby at_433) k) ?_
        have hc434_162 : ¬ ((3 : Int32) < (3 : Int32)) := (by decide)
        refine Go.step (fun _ k => XS.icmpYes X161.here hx rfl (pc0 := 434) (pc' := 443) rfl (hb hby at_434) rfl (flt hc434_162).2.2.2 (by decide) (by decide) k) ?_
        show Go _ _ _ _ _ _ _ T161 (mkF m 443 #[.val (.int ish), .val (.int ind), .val (.int iln), .val (.int ie0), .val (.int ie1), .val (.int ie2), .val (.int vp3), .val (.int vp4), .val (.int (0 : Int32)), .val (.int vn), .val (.int (0 : Int32)), .val (.int (1 : Int32)), .val (.int (2 : Int32)), .val (.ref b73), .val (.ref b80), .val (.ref b85), .val (.ref b93), .val (.ref b101), .val (.ref a18), .val (.int (3 : Int32)), .val (.int c0), .val (.int c1), .val (.int c2), .val (.int c3), .val (.ref b154), .unset] [])
        refine Go.step (fun _ k => XS.aload X161.here hx rfl (hb hby at_443) rfl rfl k) ?_
        refine Go.step (fun _ k => XS.iload X161.here hx rfl (hb hby at_445) rfl k) ?_
        refine Go.step (fun _ k => XS.aload X161.here hx rfl (hb hby at_447) rfl rfl k) ?_
        have f164 : Exa Z h161 b101 "com/example/wayfront/wayfront/paths/ShortestPathTree" := ((((Ej.ext E154).wr W157).wr W159).wr W161)
        have f165 : Fld Z h161 b101 "com/example/wayfront/wayfront/paths/ShortestPathTree" "predecessor" "[I" (.ref b73) := ((((Fpj.ext E154).other W157 (Or.inl ne_b101_b154)).other W159 (Or.inl ne_b101_b154)).other W161 (Or.inl ne_b101_b154))
        have f166 : Fld Z h161 b101 "com/example/wayfront/wayfront/paths/ShortestPathTree" "tail" "[I" (.ref b80) := ((((Ftj.ext E154).other W157 (Or.inl ne_b101_b154)).other W159 (Or.inl ne_b101_b154)).other W161 (Or.inl ne_b101_b154))
        have f167 : Arv Z h161 b73 k73 .int (5 : Int32) [(.int (-1 : Int32)), (.int (-1 : Int32)), (.int (0 : Int32)), (.int (1 : Int32)), (.int (2 : Int32))] (.int (0 : Int32)) := ((((Vpj.ext E154).other W157 ne_b73_b154).other W159 ne_b73_b154).other W161 ne_b73_b154)
        have f168 : Arv Z h161 b80 k80 .int (3 : Int32) [(.int (1 : Int32)), (.int vp3), (.int vp4)] (.int (0 : Int32)) := ((((Vtj.ext E154).other W157 ne_b80_b154).other W159 ne_b80_b154).other W161 ne_b80_b154)
        obtain ⟨cq163, kq163, q163a, q163b, q163c⟩ := isOf hZ e161 f164
        obtain ⟨_, _, ⟨T163, L163, k163, n163⟩, -, X163, ⟨Lc163, hQ163, l163, y163, z163⟩, st163⟩ := X161.virtualBack hx (y := (⟨"com/example/wayfront/wayfront/paths/ShortestPathTree", "isPathTo", "(I[I)Z"⟩ : MethodName)) (z := (⟨"com/example/wayfront/wayfront/paths/ShortestPathTree", "isPathTo", "(I[I)Z"⟩ : MethodName)) hown (mvT hZ (hw _ (List.mem_of_getElem? (i := 28) rfl))) (mvT hZ (hw _ (List.mem_of_getElem? (i := 29) rfl))) (notFace_of_selects (args := #[]) (mvT hZ (hw _ (List.mem_of_getElem? (i := 31) rfl)))) (mvT hZ (hw _ (List.mem_of_getElem? (i := 31) rfl))) (mvT hZ (hw _ (List.mem_of_getElem? (i := 30) rfl))) (by decide) (backOf (W := 0) (rmIs l Z a0 hw [] b101 vn b154 b73 k73 ([(-1 : Int32), (-1 : Int32), (0 : Int32), (1 : Int32), (2 : Int32)] : List Int32) b80 k80 ([(1 : Int32), vp3, vp4] : List Int32) k154 (3 : Int32) ([c0, c1, c2] : List Int32) ls0 h161 n0 Z161 f164 f165 f166 f167 f168 V161 rfl rfl rfl (by decide) hchj) hZ (hw _ (List.mem_of_getElem? (i := 32) rfl)) (hw _ (List.mem_of_getElem? (i := 11) rfl)) (by decide) (by decide)) q163a q163c (g := (mkF m 449 #[.val (.int ish), .val (.int ind), .val (.int iln), .val (.int ie0), .val (.int ie1), .val (.int ie2), .val (.int vp3), .val (.int vp4), .val (.int (0 : Int32)), .val (.int vn), .val (.int (0 : Int32)), .val (.int (1 : Int32)), .val (.int (2 : Int32)), .val (.ref b73), .val (.ref b80), .val (.ref b85), .val (.ref b93), .val (.ref b101), .val (.ref a18), .val (.int (3 : Int32)), .val (.int c0), .val (.int c1), .val (.int c2), .val (.int c3), .val (.ref b154), .unset] [(.ref b154), (.int vn), (.ref b101)])) rfl (by rw [hml]; rfl) (Steps.refl _) (argsL := [(.int vn), (.ref b154)]) (rest := []) (lenOf pd__I_I_Z rfl) rfl (by show 2 * 0 + _ ≤ _; exact Nat.le_of_eq rfl) (hb hby at_449) (fun _ _ => ⟨rfl, e161, (by decide : 7 + 0 ≤ _), (by decide : 28 + 0 ≤ _)⟩)
        dsimp only [Pt.U, Pt.locs, Pt.cells, Pt.slots] at X163 l163 y163 z163 st163 hQ163
        subst l163 y163 z163
        obtain ⟨h163, e163⟩ : ∃ h, T163.heap = h := ⟨_, rfl⟩
        rw [e163] at hQ163
        obtain ⟨rfl, Nq163, hs163⟩ := hQ163
        have N163 := Fr.app N161 Nq163
        rw [hs163] at e163
        refine Go.trans st163 ?_
        show Go _ _ _ _ _ _ _ T163 (mkF m 452 #[.val (.int ish), .val (.int ind), .val (.int iln), .val (.int ie0), .val (.int ie1), .val (.int ie2), .val (.int vp3), .val (.int vp4), .val (.int (0 : Int32)), .val (.int vn), .val (.int (0 : Int32)), .val (.int (1 : Int32)), .val (.int (2 : Int32)), .val (.ref b73), .val (.ref b80), .val (.ref b85), .val (.ref b93), .val (.ref b101), .val (.ref a18), .val (.int (3 : Int32)), .val (.int c0), .val (.int c1), .val (.int c2), .val (.int c3), .val (.ref b154), .unset] [(.int (if ([c0, c1, c2] : List Int32) = ls0.reverse then (1 : Int32) else 0))])
        refine Go.step (fun _ k => XS.istore X163.here hx rfl (hb hby at_452) rfl (l' := #[.val (.int ish), .val (.int ind), .val (.int iln), .val (.int ie0), .val (.int ie1), .val (.int ie2), .val (.int vp3), .val (.int vp4), .val (.int (0 : Int32)), .val (.int vn), .val (.int (0 : Int32)), .val (.int (1 : Int32)), .val (.int (2 : Int32)), .val (.ref b73), .val (.ref b80), .val (.ref b85), .val (.ref b93), .val (.ref b101), .val (.ref a18), .val (.int (3 : Int32)), .val (.int c0), .val (.int c1), .val (.int c2), .val (.int c3), .val (.ref b154), .val (.int (if ([c0, c1, c2] : List Int32) = ls0.reverse then (1 : Int32) else 0))]) rfl k) ?_
        show Go _ _ _ _ _ _ _ T163 (mkF m 454 #[.val (.int ish), .val (.int ind), .val (.int iln), .val (.int ie0), .val (.int ie1), .val (.int ie2), .val (.int vp3), .val (.int vp4), .val (.int (0 : Int32)), .val (.int vn), .val (.int (0 : Int32)), .val (.int (1 : Int32)), .val (.int (2 : Int32)), .val (.ref b73), .val (.ref b80), .val (.ref b85), .val (.ref b93), .val (.ref b101), .val (.ref a18), .val (.int (3 : Int32)), .val (.int c0), .val (.int c1), .val (.int c2), .val (.int c3), .val (.ref b154), .val (.int (if ([c0, c1, c2] : List Int32) = ls0.reverse then (1 : Int32) else 0))] [])
        refine Go.step (fun _ k => XS.iload X163.here hx rfl (hb hby at_454) rfl k) ?_
        refine Go.step (fun _ k => XS.aload X163.here hx rfl (hb hby at_456) rfl rfl k) ?_
        refine Go.step (fun _ k => XS.aload X163.here hx rfl (hb hby at_458) rfl rfl k) ?_
        have f170 : Arv Z h161 a18 k18 .int n18 (le.map Value.int) (.int (0 : Int32)) := ((((V8j.ext E154).other W157 ne_a18_b154).other W159 ne_a18_b154).other W161 ne_a18_b154)
        obtain ⟨_, _, ⟨T169, L169, k169, n169⟩, -, X169, ⟨Lc169, hQ169, l169, y169, z169⟩, st169⟩ := Jvm.LawKit.callS X163 hx (y := (⟨"com/example/wayfront/wayfront/paths/ShortestPathTreeIsPathToPinLaw", "same", "([I[I)Z"⟩ : MethodName)) hown (mvT hZ (hw _ (List.mem_of_getElem? (i := 33) rfl))) (mvT hZ (hw _ (List.mem_of_getElem? (i := 34) rfl))) (mvT hZ (hw _ (List.mem_of_getElem? (i := 3) rfl))) (mvT hZ (hw _ (List.mem_of_getElem? (i := 35) rfl))) (by decide) (backOf (W := 1) (rmSa l Z a0 hw [] a18 b154 k18 n18 le k154 (3 : Int32) ([c0, c1, c2] : List Int32) h161 n0 Z161 f170 V161 hle hn8 rfl (by decide) h48) hZ (hw _ (List.mem_of_getElem? (i := 35) rfl)) (hw _ (List.mem_of_getElem? (i := 3) rfl)) (by decide) (by decide)) (g := (mkF m 460 #[.val (.int ish), .val (.int ind), .val (.int iln), .val (.int ie0), .val (.int ie1), .val (.int ie2), .val (.int vp3), .val (.int vp4), .val (.int (0 : Int32)), .val (.int vn), .val (.int (0 : Int32)), .val (.int (1 : Int32)), .val (.int (2 : Int32)), .val (.ref b73), .val (.ref b80), .val (.ref b85), .val (.ref b93), .val (.ref b101), .val (.ref a18), .val (.int (3 : Int32)), .val (.int c0), .val (.int c1), .val (.int c2), .val (.int c3), .val (.ref b154), .val (.int (if ([c0, c1, c2] : List Int32) = ls0.reverse then (1 : Int32) else 0))] [(.ref b154), (.ref a18), (.int (if ([c0, c1, c2] : List Int32) = ls0.reverse then (1 : Int32) else 0))])) rfl (by rw [hml]; rfl) (argsL := [(.ref a18), (.ref b154)]) (rest := [(.int (if ([c0, c1, c2] : List Int32) = ls0.reverse then (1 : Int32) else 0))]) (lenOf pd___I_I_Z rfl) rfl (by show 2 * 0 + _ ≤ _; exact Nat.le_of_eq rfl) (hb hby at_460) (fun _ _ => ⟨rfl, e163, (by decide : 7 + 0 ≤ _), (by decide : 28 + 0 ≤ _)⟩)
        dsimp only [Pt.U, Pt.locs, Pt.cells, Pt.slots] at X169 l169 y169 z169 st169 hQ169
        subst l169 y169 z169
        obtain ⟨h169, e169⟩ : ∃ h, T169.heap = h := ⟨_, rfl⟩
        rw [e169] at hQ169
        obtain ⟨rfl, Nq169, hs169⟩ := hQ169
        have N169 := Fr.app N163 Nq169
        rw [hs169] at e169
        refine Go.step st169 ?_
        show Go _ _ _ _ _ _ _ T169 (mkF m 463 #[.val (.int ish), .val (.int ind), .val (.int iln), .val (.int ie0), .val (.int ie1), .val (.int ie2), .val (.int vp3), .val (.int vp4), .val (.int (0 : Int32)), .val (.int vn), .val (.int (0 : Int32)), .val (.int (1 : Int32)), .val (.int (2 : Int32)), .val (.ref b73), .val (.ref b80), .val (.ref b85), .val (.ref b93), .val (.ref b101), .val (.ref a18), .val (.int (3 : Int32)), .val (.int c0), .val (.int c1), .val (.int c2), .val (.int c3), .val (.ref b154), .val (.int (if ([c0, c1, c2] : List Int32) = ls0.reverse then (1 : Int32) else 0))] [(.int (if le = ([c0, c1, c2] : List Int32) then (1 : Int32) else 0)), (.int (if ([c0, c1, c2] : List Int32) = ls0.reverse then (1 : Int32) else 0))])
        have hc463_171 : (if ([c0, c1, c2] : List Int32) = ls0.reverse then (1 : Int32) else 0) = (if le = ([c0, c1, c2] : List Int32) then (1 : Int32) else 0) := (own_fin hrv)
        refine Go.step (fun _ k => XS.icmpNo X169.here hx rfl (hb hby at_463) rfl (teq hc463_171).2 k) ?_
        show Go _ _ _ _ _ _ _ T169 (mkF m 466 #[.val (.int ish), .val (.int ind), .val (.int iln), .val (.int ie0), .val (.int ie1), .val (.int ie2), .val (.int vp3), .val (.int vp4), .val (.int (0 : Int32)), .val (.int vn), .val (.int (0 : Int32)), .val (.int (1 : Int32)), .val (.int (2 : Int32)), .val (.ref b73), .val (.ref b80), .val (.ref b85), .val (.ref b93), .val (.ref b101), .val (.ref a18), .val (.int (3 : Int32)), .val (.int c0), .val (.int c1), .val (.int c2), .val (.int c3), .val (.ref b154), .val (.int (if ([c0, c1, c2] : List Int32) = ls0.reverse then (1 : Int32) else 0))] [])
        refine Go.step (fun _ k => XS.iconst X169.here hx rfl (hb hby at_466) k) ?_
        refine Go.step (fun _ k => XS.goto X169.here hx rfl (pc0 := 467) (pc' := 471) rfl (hb hby at_467) (by decide) (by decide) k) ?_
        show Go _ _ _ _ _ _ _ T169 (mkF m 471 #[.val (.int ish), .val (.int ind), .val (.int iln), .val (.int ie0), .val (.int ie1), .val (.int ie2), .val (.int vp3), .val (.int vp4), .val (.int (0 : Int32)), .val (.int vn), .val (.int (0 : Int32)), .val (.int (1 : Int32)), .val (.int (2 : Int32)), .val (.ref b73), .val (.ref b80), .val (.ref b85), .val (.ref b93), .val (.ref b101), .val (.ref a18), .val (.int (3 : Int32)), .val (.int c0), .val (.int c1), .val (.int c2), .val (.int c3), .val (.ref b154), .val (.int (if ([c0, c1, c2] : List Int32) = ls0.reverse then (1 : Int32) else 0))] [(.int (1 : Int32))])
        exact Go.retN X169 hx (t := .boolean) hret hlk (by simp) (hb hby at_471) e169 (by decide) (by decide) ⟨rfl, N169, trivial⟩
      · show Go _ _ _ _ _ _ _ TJ (mkF m 390 #[.val (.int ish), .val (.int ind), .val (.int iln), .val (.int ie0), .val (.int ie1), .val (.int ie2), .val (.int vp3), .val (.int vp4), .val (.int (0 : Int32)), .val (.int vn), .val (.int (0 : Int32)), .val (.int (1 : Int32)), .val (.int (2 : Int32)), .val (.ref b73), .val (.ref b80), .val (.ref b85), .val (.ref b93), .val (.ref b101), .val (.ref a18), .val (.int (4 : Int32)), .val (.int c0), .val (.int c1), .val (.int c2), .val (.int c3), .unset, .unset] [])
        refine Go.step (fun _ k => XS.iload XJ.here hx rfl (hb hby at_390) rfl k) ?_
        obtain ⟨T172, h172, k172, X172, e172, E172, A172, st172⟩ := newP XJ hx hZ (hw _ (List.mem_of_getElem? (i := 5) rfl)) eJ (g := (mkF m 392 #[.val (.int ish), .val (.int ind), .val (.int iln), .val (.int ie0), .val (.int ie1), .val (.int ie2), .val (.int vp3), .val (.int vp4), .val (.int (0 : Int32)), .val (.int vn), .val (.int (0 : Int32)), .val (.int (1 : Int32)), .val (.int (2 : Int32)), .val (.ref b73), .val (.ref b80), .val (.ref b85), .val (.ref b93), .val (.ref b101), .val (.ref a18), .val (.int (4 : Int32)), .val (.int c0), .val (.int c1), .val (.int c2), .val (.int c3), .unset, .unset] [(.int (4 : Int32))])) rfl (hb hby at_392) rfl (by decide) (cap := 4) (by decide) (by decide) (by decide) (by decide)
        obtain ⟨b172, g172⟩ : ∃ z, z = hJ.size := ⟨_, rfl⟩
        rw [← g172] at A172 st172
        refine Go.step st172 ?_
        have g_b172 : n0 ≤ b172 := Nat.le_trans ZJ (Nat.le_of_eq g172.symm)
        have ne_a18_b172 : a18 ≠ b172 := Nat.ne_of_lt (Nat.lt_of_lt_of_le V8j.lt (Nat.le_of_eq g172.symm))
        have ne_b101_b172 : b101 ≠ b172 := Nat.ne_of_lt (Nat.lt_of_lt_of_le Ej.lt (Nat.le_of_eq g172.symm))
        have ne_b73_b172 : b73 ≠ b172 := Nat.ne_of_lt (Nat.lt_of_lt_of_le Vpj.lt (Nat.le_of_eq g172.symm))
        have ne_b80_b172 : b80 ≠ b172 := Nat.ne_of_lt (Nat.lt_of_lt_of_le Vtj.lt (Nat.le_of_eq g172.symm))
        have Z172 : n0 ≤ h172.size := Nat.le_trans ZJ E172.1
        have V172 : Arv Z h172 b172 k172 .int (4 : Int32) [] (.int (0 : Int32)) := Arv.new A172 (by decide)
        have V173 : Arv Z h172 b172 k172 .int (4 : Int32) [(.int (0 : Int32)), (.int (0 : Int32)), (.int (0 : Int32)), (.int (0 : Int32))] (.int (0 : Int32)) := (V172).pad (pad_rep [] (.int (0 : Int32)) 4)
        show Go _ _ _ _ _ _ _ T172 (mkF m 394 #[.val (.int ish), .val (.int ind), .val (.int iln), .val (.int ie0), .val (.int ie1), .val (.int ie2), .val (.int vp3), .val (.int vp4), .val (.int (0 : Int32)), .val (.int vn), .val (.int (0 : Int32)), .val (.int (1 : Int32)), .val (.int (2 : Int32)), .val (.ref b73), .val (.ref b80), .val (.ref b85), .val (.ref b93), .val (.ref b101), .val (.ref a18), .val (.int (4 : Int32)), .val (.int c0), .val (.int c1), .val (.int c2), .val (.int c3), .unset, .unset] [(.ref b172)])
        refine Go.step (fun _ k => XS.astore X172.here hx rfl (hb hby at_394) rfl rfl (l' := #[.val (.int ish), .val (.int ind), .val (.int iln), .val (.int ie0), .val (.int ie1), .val (.int ie2), .val (.int vp3), .val (.int vp4), .val (.int (0 : Int32)), .val (.int vn), .val (.int (0 : Int32)), .val (.int (1 : Int32)), .val (.int (2 : Int32)), .val (.ref b73), .val (.ref b80), .val (.ref b85), .val (.ref b93), .val (.ref b101), .val (.ref a18), .val (.int (4 : Int32)), .val (.int c0), .val (.int c1), .val (.int c2), .val (.int c3), .val (.ref b172), .unset]) rfl k) ?_
        show Go _ _ _ _ _ _ _ T172 (mkF m 396 #[.val (.int ish), .val (.int ind), .val (.int iln), .val (.int ie0), .val (.int ie1), .val (.int ie2), .val (.int vp3), .val (.int vp4), .val (.int (0 : Int32)), .val (.int vn), .val (.int (0 : Int32)), .val (.int (1 : Int32)), .val (.int (2 : Int32)), .val (.ref b73), .val (.ref b80), .val (.ref b85), .val (.ref b93), .val (.ref b101), .val (.ref a18), .val (.int (4 : Int32)), .val (.int c0), .val (.int c1), .val (.int c2), .val (.int c3), .val (.ref b172), .unset] [])
        refine Go.step (fun _ k => XS.iload X172.here hx rfl (hb hby at_396) rfl k) ?_
        have hc398_174 : (0 : Int32) < (4 : Int32) := (by decide)
        refine Go.step (fun _ k => XS.ifNo X172.here hx rfl (hb hby at_398) rfl ((if0 _ _).trans (tlt hc398_174).2.2.2) k) ?_
        show Go _ _ _ _ _ _ _ T172 (mkF m 401 #[.val (.int ish), .val (.int ind), .val (.int iln), .val (.int ie0), .val (.int ie1), .val (.int ie2), .val (.int vp3), .val (.int vp4), .val (.int (0 : Int32)), .val (.int vn), .val (.int (0 : Int32)), .val (.int (1 : Int32)), .val (.int (2 : Int32)), .val (.ref b73), .val (.ref b80), .val (.ref b85), .val (.ref b93), .val (.ref b101), .val (.ref a18), .val (.int (4 : Int32)), .val (.int c0), .val (.int c1), .val (.int c2), .val (.int c3), .val (.ref b172), .unset] [])
        refine Go.step (fun _ k => XS.aload X172.here hx rfl (hb hby at_401) rfl rfl k) ?_
        refine Go.step (fun _ k => XS.iconst X172.here hx rfl (hb hby at_403) k) ?_
        refine Go.step (fun _ k => XS.iload X172.here hx rfl (hb hby at_404) rfl k) ?_
        obtain ⟨cl175, Ar175, q175, S175, M175, H175, G175⟩ := id (V173)
        have hin175 : ¬ ((0 : Int32) < 0 ∨ cl175.slots.size ≤ ((0 : Int32)).toNatClampNeg) := inb_of S175 ⟨by decide, by decide⟩
        obtain ⟨T175, h175, X175, e175, W175, st175⟩ := stI X172 hx hZ e172 Ar175 (j := (0 : Int32)) hin175 (g := (mkF m 406 #[.val (.int ish), .val (.int ind), .val (.int iln), .val (.int ie0), .val (.int ie1), .val (.int ie2), .val (.int vp3), .val (.int vp4), .val (.int (0 : Int32)), .val (.int vn), .val (.int (0 : Int32)), .val (.int (1 : Int32)), .val (.int (2 : Int32)), .val (.ref b73), .val (.ref b80), .val (.ref b85), .val (.ref b93), .val (.ref b101), .val (.ref a18), .val (.int (4 : Int32)), .val (.int c0), .val (.int c1), .val (.int c2), .val (.int c3), .val (.ref b172), .unset] [(.int c0), (.int (0 : Int32)), (.ref b172)])) rfl rfl (hb hby at_406)
        refine Go.step st175 ?_
        have V175 : Arv Z h175 b172 k172 .int (4 : Int32) [(.int c0), (.int (0 : Int32)), (.int (0 : Int32)), (.int (0 : Int32))] (.int (0 : Int32)) := Arv.set Ar175 q175 S175 M175 H175 G175 rfl W175 0 rfl (Nat.le_of_ble_eq_true rfl)
        have N175 := Fr.snoc X175 NJ g_b172
        have Z175 : n0 ≤ h175.size := Nat.le_trans Z172 (Keep.of_wr W175).1
        show Go _ _ _ _ _ _ _ T175 (mkF m 407 #[.val (.int ish), .val (.int ind), .val (.int iln), .val (.int ie0), .val (.int ie1), .val (.int ie2), .val (.int vp3), .val (.int vp4), .val (.int (0 : Int32)), .val (.int vn), .val (.int (0 : Int32)), .val (.int (1 : Int32)), .val (.int (2 : Int32)), .val (.ref b73), .val (.ref b80), .val (.ref b85), .val (.ref b93), .val (.ref b101), .val (.ref a18), .val (.int (4 : Int32)), .val (.int c0), .val (.int c1), .val (.int c2), .val (.int c3), .val (.ref b172), .unset] [])
        refine Go.step (fun _ k => XS.iload X175.here hx rfl (hb hby at_407) rfl k) ?_
        refine Go.step (fun _ k => XS.iconst X175.here hx rfl (hb hby at_409) k) ?_
        have hc410_176 : (1 : Int32) < (4 : Int32) := (by decide)
        refine Go.step (fun _ k => XS.icmpNo X175.here hx rfl (hb hby at_410) rfl (tlt hc410_176).2.2.2 k) ?_
        show Go _ _ _ _ _ _ _ T175 (mkF m 413 #[.val (.int ish), .val (.int ind), .val (.int iln), .val (.int ie0), .val (.int ie1), .val (.int ie2), .val (.int vp3), .val (.int vp4), .val (.int (0 : Int32)), .val (.int vn), .val (.int (0 : Int32)), .val (.int (1 : Int32)), .val (.int (2 : Int32)), .val (.ref b73), .val (.ref b80), .val (.ref b85), .val (.ref b93), .val (.ref b101), .val (.ref a18), .val (.int (4 : Int32)), .val (.int c0), .val (.int c1), .val (.int c2), .val (.int c3), .val (.ref b172), .unset] [])
        refine Go.step (fun _ k => XS.aload X175.here hx rfl (hb hby at_413) rfl rfl k) ?_
        refine Go.step (fun _ k => XS.iconst X175.here hx rfl (hb hby at_415) k) ?_
        refine Go.step (fun _ k => XS.iload X175.here hx rfl (hb hby at_416) rfl k) ?_
        obtain ⟨cl177, Ar177, q177, S177, M177, H177, G177⟩ := id (V175)
        have hin177 : ¬ ((1 : Int32) < 0 ∨ cl177.slots.size ≤ ((1 : Int32)).toNatClampNeg) := inb_of S177 ⟨by decide, by decide⟩
        obtain ⟨T177, h177, X177, e177, W177, st177⟩ := stI X175 hx hZ e175 Ar177 (j := (1 : Int32)) hin177 (g := (mkF m 418 #[.val (.int ish), .val (.int ind), .val (.int iln), .val (.int ie0), .val (.int ie1), .val (.int ie2), .val (.int vp3), .val (.int vp4), .val (.int (0 : Int32)), .val (.int vn), .val (.int (0 : Int32)), .val (.int (1 : Int32)), .val (.int (2 : Int32)), .val (.ref b73), .val (.ref b80), .val (.ref b85), .val (.ref b93), .val (.ref b101), .val (.ref a18), .val (.int (4 : Int32)), .val (.int c0), .val (.int c1), .val (.int c2), .val (.int c3), .val (.ref b172), .unset] [(.int c1), (.int (1 : Int32)), (.ref b172)])) rfl rfl (hb hby at_418)
        refine Go.step st177 ?_
        have V177 : Arv Z h177 b172 k172 .int (4 : Int32) [(.int c0), (.int c1), (.int (0 : Int32)), (.int (0 : Int32))] (.int (0 : Int32)) := Arv.set Ar177 q177 S177 M177 H177 G177 rfl W177 1 rfl (Nat.le_of_ble_eq_true rfl)
        have N177 := Fr.snoc X177 N175 g_b172
        have Z177 : n0 ≤ h177.size := Nat.le_trans Z175 (Keep.of_wr W177).1
        show Go _ _ _ _ _ _ _ T177 (mkF m 419 #[.val (.int ish), .val (.int ind), .val (.int iln), .val (.int ie0), .val (.int ie1), .val (.int ie2), .val (.int vp3), .val (.int vp4), .val (.int (0 : Int32)), .val (.int vn), .val (.int (0 : Int32)), .val (.int (1 : Int32)), .val (.int (2 : Int32)), .val (.ref b73), .val (.ref b80), .val (.ref b85), .val (.ref b93), .val (.ref b101), .val (.ref a18), .val (.int (4 : Int32)), .val (.int c0), .val (.int c1), .val (.int c2), .val (.int c3), .val (.ref b172), .unset] [])
        refine Go.step (fun _ k => XS.iload X177.here hx rfl (hb hby at_419) rfl k) ?_
        refine Go.step (fun _ k => XS.iconst X177.here hx rfl (hb hby at_421) k) ?_
        have hc422_178 : (2 : Int32) < (4 : Int32) := (by decide)
        refine Go.step (fun _ k => XS.icmpNo X177.here hx rfl (hb hby at_422) rfl (tlt hc422_178).2.2.2 k) ?_
        show Go _ _ _ _ _ _ _ T177 (mkF m 425 #[.val (.int ish), .val (.int ind), .val (.int iln), .val (.int ie0), .val (.int ie1), .val (.int ie2), .val (.int vp3), .val (.int vp4), .val (.int (0 : Int32)), .val (.int vn), .val (.int (0 : Int32)), .val (.int (1 : Int32)), .val (.int (2 : Int32)), .val (.ref b73), .val (.ref b80), .val (.ref b85), .val (.ref b93), .val (.ref b101), .val (.ref a18), .val (.int (4 : Int32)), .val (.int c0), .val (.int c1), .val (.int c2), .val (.int c3), .val (.ref b172), .unset] [])
        refine Go.step (fun _ k => XS.aload X177.here hx rfl (hb hby at_425) rfl rfl k) ?_
        refine Go.step (fun _ k => XS.iconst X177.here hx rfl (hb hby at_427) k) ?_
        refine Go.step (fun _ k => XS.iload X177.here hx rfl (hb hby at_428) rfl k) ?_
        obtain ⟨cl179, Ar179, q179, S179, M179, H179, G179⟩ := id (V177)
        have hin179 : ¬ ((2 : Int32) < 0 ∨ cl179.slots.size ≤ ((2 : Int32)).toNatClampNeg) := inb_of S179 ⟨by decide, by decide⟩
        obtain ⟨T179, h179, X179, e179, W179, st179⟩ := stI X177 hx hZ e177 Ar179 (j := (2 : Int32)) hin179 (g := (mkF m 430 #[.val (.int ish), .val (.int ind), .val (.int iln), .val (.int ie0), .val (.int ie1), .val (.int ie2), .val (.int vp3), .val (.int vp4), .val (.int (0 : Int32)), .val (.int vn), .val (.int (0 : Int32)), .val (.int (1 : Int32)), .val (.int (2 : Int32)), .val (.ref b73), .val (.ref b80), .val (.ref b85), .val (.ref b93), .val (.ref b101), .val (.ref a18), .val (.int (4 : Int32)), .val (.int c0), .val (.int c1), .val (.int c2), .val (.int c3), .val (.ref b172), .unset] [(.int c2), (.int (2 : Int32)), (.ref b172)])) rfl rfl (hb hby at_430)
        refine Go.step st179 ?_
        have V179 : Arv Z h179 b172 k172 .int (4 : Int32) [(.int c0), (.int c1), (.int c2), (.int (0 : Int32))] (.int (0 : Int32)) := Arv.set Ar179 q179 S179 M179 H179 G179 rfl W179 2 rfl (Nat.le_of_ble_eq_true rfl)
        have N179 := Fr.snoc X179 N177 g_b172
        have Z179 : n0 ≤ h179.size := Nat.le_trans Z177 (Keep.of_wr W179).1
        show Go _ _ _ _ _ _ _ T179 (mkF m 431 #[.val (.int ish), .val (.int ind), .val (.int iln), .val (.int ie0), .val (.int ie1), .val (.int ie2), .val (.int vp3), .val (.int vp4), .val (.int (0 : Int32)), .val (.int vn), .val (.int (0 : Int32)), .val (.int (1 : Int32)), .val (.int (2 : Int32)), .val (.ref b73), .val (.ref b80), .val (.ref b85), .val (.ref b93), .val (.ref b101), .val (.ref a18), .val (.int (4 : Int32)), .val (.int c0), .val (.int c1), .val (.int c2), .val (.int c3), .val (.ref b172), .unset] [])
        refine Go.step (fun _ k => XS.iload X179.here hx rfl (hb hby at_431) rfl k) ?_
        refine Go.step (fun _ k => XS.iconst X179.here hx rfl (hb hby at_433) k) ?_
        have hc434_180 : (3 : Int32) < (4 : Int32) := (by decide)
        refine Go.step (fun _ k => XS.icmpNo X179.here hx rfl (hb hby at_434) rfl (tlt hc434_180).2.2.2 k) ?_
        show Go _ _ _ _ _ _ _ T179 (mkF m 437 #[.val (.int ish), .val (.int ind), .val (.int iln), .val (.int ie0), .val (.int ie1), .val (.int ie2), .val (.int vp3), .val (.int vp4), .val (.int (0 : Int32)), .val (.int vn), .val (.int (0 : Int32)), .val (.int (1 : Int32)), .val (.int (2 : Int32)), .val (.ref b73), .val (.ref b80), .val (.ref b85), .val (.ref b93), .val (.ref b101), .val (.ref a18), .val (.int (4 : Int32)), .val (.int c0), .val (.int c1), .val (.int c2), .val (.int c3), .val (.ref b172), .unset] [])
        refine Go.step (fun _ k => XS.aload X179.here hx rfl (hb hby at_437) rfl rfl k) ?_
        refine Go.step (fun _ k => XS.iconst X179.here hx rfl (hb hby at_439) k) ?_
        refine Go.step (fun _ k => XS.iload X179.here hx rfl (hb hby at_440) rfl k) ?_
        obtain ⟨cl181, Ar181, q181, S181, M181, H181, G181⟩ := id (V179)
        have hin181 : ¬ ((3 : Int32) < 0 ∨ cl181.slots.size ≤ ((3 : Int32)).toNatClampNeg) := inb_of S181 ⟨by decide, by decide⟩
        obtain ⟨T181, h181, X181, e181, W181, st181⟩ := stI X179 hx hZ e179 Ar181 (j := (3 : Int32)) hin181 (g := (mkF m 442 #[.val (.int ish), .val (.int ind), .val (.int iln), .val (.int ie0), .val (.int ie1), .val (.int ie2), .val (.int vp3), .val (.int vp4), .val (.int (0 : Int32)), .val (.int vn), .val (.int (0 : Int32)), .val (.int (1 : Int32)), .val (.int (2 : Int32)), .val (.ref b73), .val (.ref b80), .val (.ref b85), .val (.ref b93), .val (.ref b101), .val (.ref a18), .val (.int (4 : Int32)), .val (.int c0), .val (.int c1), .val (.int c2), .val (.int c3), .val (.ref b172), .unset] [(.int c3), (.int (3 : Int32)), (.ref b172)])) rfl rfl (hb hby at_442)
        refine Go.step st181 ?_
        have V181 : Arv Z h181 b172 k172 .int (4 : Int32) [(.int c0), (.int c1), (.int c2), (.int c3)] (.int (0 : Int32)) := Arv.set Ar181 q181 S181 M181 H181 G181 rfl W181 3 rfl (Nat.le_of_ble_eq_true rfl)
        have N181 := Fr.snoc X181 N179 g_b172
        have Z181 : n0 ≤ h181.size := Nat.le_trans Z179 (Keep.of_wr W181).1
        show Go _ _ _ _ _ _ _ T181 (mkF m 443 #[.val (.int ish), .val (.int ind), .val (.int iln), .val (.int ie0), .val (.int ie1), .val (.int ie2), .val (.int vp3), .val (.int vp4), .val (.int (0 : Int32)), .val (.int vn), .val (.int (0 : Int32)), .val (.int (1 : Int32)), .val (.int (2 : Int32)), .val (.ref b73), .val (.ref b80), .val (.ref b85), .val (.ref b93), .val (.ref b101), .val (.ref a18), .val (.int (4 : Int32)), .val (.int c0), .val (.int c1), .val (.int c2), .val (.int c3), .val (.ref b172), .unset] [])
        refine Go.step (fun _ k => XS.aload X181.here hx rfl (hb hby at_443) rfl rfl k) ?_
        refine Go.step (fun _ k => XS.iload X181.here hx rfl (hb hby at_445) rfl k) ?_
        refine Go.step (fun _ k => XS.aload X181.here hx rfl (hb hby at_447) rfl rfl k) ?_
        have f183 : Exa Z h181 b101 "com/example/wayfront/wayfront/paths/ShortestPathTree" := (((((Ej.ext E172).wr W175).wr W177).wr W179).wr W181)
        have f184 : Fld Z h181 b101 "com/example/wayfront/wayfront/paths/ShortestPathTree" "predecessor" "[I" (.ref b73) := (((((Fpj.ext E172).other W175 (Or.inl ne_b101_b172)).other W177 (Or.inl ne_b101_b172)).other W179 (Or.inl ne_b101_b172)).other W181 (Or.inl ne_b101_b172))
        have f185 : Fld Z h181 b101 "com/example/wayfront/wayfront/paths/ShortestPathTree" "tail" "[I" (.ref b80) := (((((Ftj.ext E172).other W175 (Or.inl ne_b101_b172)).other W177 (Or.inl ne_b101_b172)).other W179 (Or.inl ne_b101_b172)).other W181 (Or.inl ne_b101_b172))
        have f186 : Arv Z h181 b73 k73 .int (5 : Int32) [(.int (-1 : Int32)), (.int (-1 : Int32)), (.int (0 : Int32)), (.int (1 : Int32)), (.int (2 : Int32))] (.int (0 : Int32)) := (((((Vpj.ext E172).other W175 ne_b73_b172).other W177 ne_b73_b172).other W179 ne_b73_b172).other W181 ne_b73_b172)
        have f187 : Arv Z h181 b80 k80 .int (3 : Int32) [(.int (1 : Int32)), (.int vp3), (.int vp4)] (.int (0 : Int32)) := (((((Vtj.ext E172).other W175 ne_b80_b172).other W177 ne_b80_b172).other W179 ne_b80_b172).other W181 ne_b80_b172)
        obtain ⟨cq182, kq182, q182a, q182b, q182c⟩ := isOf hZ e181 f183
        obtain ⟨_, _, ⟨T182, L182, k182, n182⟩, -, X182, ⟨Lc182, hQ182, l182, y182, z182⟩, st182⟩ := X181.virtualBack hx (y := (⟨"com/example/wayfront/wayfront/paths/ShortestPathTree", "isPathTo", "(I[I)Z"⟩ : MethodName)) (z := (⟨"com/example/wayfront/wayfront/paths/ShortestPathTree", "isPathTo", "(I[I)Z"⟩ : MethodName)) hown (mvT hZ (hw _ (List.mem_of_getElem? (i := 28) rfl))) (mvT hZ (hw _ (List.mem_of_getElem? (i := 29) rfl))) (notFace_of_selects (args := #[]) (mvT hZ (hw _ (List.mem_of_getElem? (i := 31) rfl)))) (mvT hZ (hw _ (List.mem_of_getElem? (i := 31) rfl))) (mvT hZ (hw _ (List.mem_of_getElem? (i := 30) rfl))) (by decide) (backOf (W := 0) (rmIs l Z a0 hw [] b101 vn b172 b73 k73 ([(-1 : Int32), (-1 : Int32), (0 : Int32), (1 : Int32), (2 : Int32)] : List Int32) b80 k80 ([(1 : Int32), vp3, vp4] : List Int32) k172 (4 : Int32) ([c0, c1, c2, c3] : List Int32) ls0 h181 n0 Z181 f183 f184 f185 f186 f187 V181 rfl rfl rfl (by decide) hchj) hZ (hw _ (List.mem_of_getElem? (i := 32) rfl)) (hw _ (List.mem_of_getElem? (i := 11) rfl)) (by decide) (by decide)) q182a q182c (g := (mkF m 449 #[.val (.int ish), .val (.int ind), .val (.int iln), .val (.int ie0), .val (.int ie1), .val (.int ie2), .val (.int vp3), .val (.int vp4), .val (.int (0 : Int32)), .val (.int vn), .val (.int (0 : Int32)), .val (.int (1 : Int32)), .val (.int (2 : Int32)), .val (.ref b73), .val (.ref b80), .val (.ref b85), .val (.ref b93), .val (.ref b101), .val (.ref a18), .val (.int (4 : Int32)), .val (.int c0), .val (.int c1), .val (.int c2), .val (.int c3), .val (.ref b172), .unset] [(.ref b172), (.int vn), (.ref b101)])) rfl (by rw [hml]; rfl) (Steps.refl _) (argsL := [(.int vn), (.ref b172)]) (rest := []) (lenOf pd__I_I_Z rfl) rfl (by show 2 * 0 + _ ≤ _; exact Nat.le_of_eq rfl) (hb hby at_449) (fun _ _ => ⟨rfl, e181, (by decide : 7 + 0 ≤ _), (by decide : 29 + 0 ≤ _)⟩)
        dsimp only [Pt.U, Pt.locs, Pt.cells, Pt.slots] at X182 l182 y182 z182 st182 hQ182
        subst l182 y182 z182
        obtain ⟨h182, e182⟩ : ∃ h, T182.heap = h := ⟨_, rfl⟩
        rw [e182] at hQ182
        obtain ⟨rfl, Nq182, hs182⟩ := hQ182
        have N182 := Fr.app N181 Nq182
        rw [hs182] at e182
        refine Go.trans st182 ?_
        show Go _ _ _ _ _ _ _ T182 (mkF m 452 #[.val (.int ish), .val (.int ind), .val (.int iln), .val (.int ie0), .val (.int ie1), .val (.int ie2), .val (.int vp3), .val (.int vp4), .val (.int (0 : Int32)), .val (.int vn), .val (.int (0 : Int32)), .val (.int (1 : Int32)), .val (.int (2 : Int32)), .val (.ref b73), .val (.ref b80), .val (.ref b85), .val (.ref b93), .val (.ref b101), .val (.ref a18), .val (.int (4 : Int32)), .val (.int c0), .val (.int c1), .val (.int c2), .val (.int c3), .val (.ref b172), .unset] [(.int (if ([c0, c1, c2, c3] : List Int32) = ls0.reverse then (1 : Int32) else 0))])
        refine Go.step (fun _ k => XS.istore X182.here hx rfl (hb hby at_452) rfl (l' := #[.val (.int ish), .val (.int ind), .val (.int iln), .val (.int ie0), .val (.int ie1), .val (.int ie2), .val (.int vp3), .val (.int vp4), .val (.int (0 : Int32)), .val (.int vn), .val (.int (0 : Int32)), .val (.int (1 : Int32)), .val (.int (2 : Int32)), .val (.ref b73), .val (.ref b80), .val (.ref b85), .val (.ref b93), .val (.ref b101), .val (.ref a18), .val (.int (4 : Int32)), .val (.int c0), .val (.int c1), .val (.int c2), .val (.int c3), .val (.ref b172), .val (.int (if ([c0, c1, c2, c3] : List Int32) = ls0.reverse then (1 : Int32) else 0))]) rfl k) ?_
        show Go _ _ _ _ _ _ _ T182 (mkF m 454 #[.val (.int ish), .val (.int ind), .val (.int iln), .val (.int ie0), .val (.int ie1), .val (.int ie2), .val (.int vp3), .val (.int vp4), .val (.int (0 : Int32)), .val (.int vn), .val (.int (0 : Int32)), .val (.int (1 : Int32)), .val (.int (2 : Int32)), .val (.ref b73), .val (.ref b80), .val (.ref b85), .val (.ref b93), .val (.ref b101), .val (.ref a18), .val (.int (4 : Int32)), .val (.int c0), .val (.int c1), .val (.int c2), .val (.int c3), .val (.ref b172), .val (.int (if ([c0, c1, c2, c3] : List Int32) = ls0.reverse then (1 : Int32) else 0))] [])
        refine Go.step (fun _ k => XS.iload X182.here hx rfl (hb hby at_454) rfl k) ?_
        refine Go.step (fun _ k => XS.aload X182.here hx rfl (hb hby at_456) rfl rfl k) ?_
        refine Go.step (fun _ k => XS.aload X182.here hx rfl (hb hby at_458) rfl rfl k) ?_
        have f189 : Arv Z h181 a18 k18 .int n18 (le.map Value.int) (.int (0 : Int32)) := (((((V8j.ext E172).other W175 ne_a18_b172).other W177 ne_a18_b172).other W179 ne_a18_b172).other W181 ne_a18_b172)
        obtain ⟨_, _, ⟨T188, L188, k188, n188⟩, -, X188, ⟨Lc188, hQ188, l188, y188, z188⟩, st188⟩ := Jvm.LawKit.callS X182 hx (y := (⟨"com/example/wayfront/wayfront/paths/ShortestPathTreeIsPathToPinLaw", "same", "([I[I)Z"⟩ : MethodName)) hown (mvT hZ (hw _ (List.mem_of_getElem? (i := 33) rfl))) (mvT hZ (hw _ (List.mem_of_getElem? (i := 34) rfl))) (mvT hZ (hw _ (List.mem_of_getElem? (i := 3) rfl))) (mvT hZ (hw _ (List.mem_of_getElem? (i := 35) rfl))) (by decide) (backOf (W := 1) (rmSa l Z a0 hw [] a18 b172 k18 n18 le k172 (4 : Int32) ([c0, c1, c2, c3] : List Int32) h181 n0 Z181 f189 V181 hle hn8 rfl (by decide) h48) hZ (hw _ (List.mem_of_getElem? (i := 35) rfl)) (hw _ (List.mem_of_getElem? (i := 3) rfl)) (by decide) (by decide)) (g := (mkF m 460 #[.val (.int ish), .val (.int ind), .val (.int iln), .val (.int ie0), .val (.int ie1), .val (.int ie2), .val (.int vp3), .val (.int vp4), .val (.int (0 : Int32)), .val (.int vn), .val (.int (0 : Int32)), .val (.int (1 : Int32)), .val (.int (2 : Int32)), .val (.ref b73), .val (.ref b80), .val (.ref b85), .val (.ref b93), .val (.ref b101), .val (.ref a18), .val (.int (4 : Int32)), .val (.int c0), .val (.int c1), .val (.int c2), .val (.int c3), .val (.ref b172), .val (.int (if ([c0, c1, c2, c3] : List Int32) = ls0.reverse then (1 : Int32) else 0))] [(.ref b172), (.ref a18), (.int (if ([c0, c1, c2, c3] : List Int32) = ls0.reverse then (1 : Int32) else 0))])) rfl (by rw [hml]; rfl) (argsL := [(.ref a18), (.ref b172)]) (rest := [(.int (if ([c0, c1, c2, c3] : List Int32) = ls0.reverse then (1 : Int32) else 0))]) (lenOf pd___I_I_Z rfl) rfl (by show 2 * 0 + _ ≤ _; exact Nat.le_of_eq rfl) (hb hby at_460) (fun _ _ => ⟨rfl, e182, (by decide : 7 + 0 ≤ _), (by decide : 29 + 0 ≤ _)⟩)
        dsimp only [Pt.U, Pt.locs, Pt.cells, Pt.slots] at X188 l188 y188 z188 st188 hQ188
        subst l188 y188 z188
        obtain ⟨h188, e188⟩ : ∃ h, T188.heap = h := ⟨_, rfl⟩
        rw [e188] at hQ188
        obtain ⟨rfl, Nq188, hs188⟩ := hQ188
        have N188 := Fr.app N182 Nq188
        rw [hs188] at e188
        refine Go.step st188 ?_
        show Go _ _ _ _ _ _ _ T188 (mkF m 463 #[.val (.int ish), .val (.int ind), .val (.int iln), .val (.int ie0), .val (.int ie1), .val (.int ie2), .val (.int vp3), .val (.int vp4), .val (.int (0 : Int32)), .val (.int vn), .val (.int (0 : Int32)), .val (.int (1 : Int32)), .val (.int (2 : Int32)), .val (.ref b73), .val (.ref b80), .val (.ref b85), .val (.ref b93), .val (.ref b101), .val (.ref a18), .val (.int (4 : Int32)), .val (.int c0), .val (.int c1), .val (.int c2), .val (.int c3), .val (.ref b172), .val (.int (if ([c0, c1, c2, c3] : List Int32) = ls0.reverse then (1 : Int32) else 0))] [(.int (if le = ([c0, c1, c2, c3] : List Int32) then (1 : Int32) else 0)), (.int (if ([c0, c1, c2, c3] : List Int32) = ls0.reverse then (1 : Int32) else 0))])
        have hc463_190 : (if ([c0, c1, c2, c3] : List Int32) = ls0.reverse then (1 : Int32) else 0) = (if le = ([c0, c1, c2, c3] : List Int32) then (1 : Int32) else 0) := (own_fin hrv)
        refine Go.step (fun _ k => XS.icmpNo X188.here hx rfl (hb hby at_463) rfl (teq hc463_190).2 k) ?_
        show Go _ _ _ _ _ _ _ T188 (mkF m 466 #[.val (.int ish), .val (.int ind), .val (.int iln), .val (.int ie0), .val (.int ie1), .val (.int ie2), .val (.int vp3), .val (.int vp4), .val (.int (0 : Int32)), .val (.int vn), .val (.int (0 : Int32)), .val (.int (1 : Int32)), .val (.int (2 : Int32)), .val (.ref b73), .val (.ref b80), .val (.ref b85), .val (.ref b93), .val (.ref b101), .val (.ref a18), .val (.int (4 : Int32)), .val (.int c0), .val (.int c1), .val (.int c2), .val (.int c3), .val (.ref b172), .val (.int (if ([c0, c1, c2, c3] : List Int32) = ls0.reverse then (1 : Int32) else 0))] [])
        refine Go.step (fun _ k => XS.iconst X188.here hx rfl (hb hby at_466) k) ?_
        refine Go.step (fun _ k => XS.goto X188.here hx rfl (pc0 := 467) (pc' := 471) rfl (hb hby at_467) (by decide) (by decide) k) ?_
        show Go _ _ _ _ _ _ _ T188 (mkF m 471 #[.val (.int ish), .val (.int ind), .val (.int iln), .val (.int ie0), .val (.int ie1), .val (.int ie2), .val (.int vp3), .val (.int vp4), .val (.int (0 : Int32)), .val (.int vn), .val (.int (0 : Int32)), .val (.int (1 : Int32)), .val (.int (2 : Int32)), .val (.ref b73), .val (.ref b80), .val (.ref b85), .val (.ref b93), .val (.ref b101), .val (.ref a18), .val (.int (4 : Int32)), .val (.int c0), .val (.int c1), .val (.int c2), .val (.int c3), .val (.ref b172), .val (.int (if ([c0, c1, c2, c3] : List Int32) = ls0.reverse then (1 : Int32) else 0))] [(.int (1 : Int32))])
        exact Go.retN X188 hx (t := .boolean) hret hlk (by simp) (hb hby at_471) e188 (by decide) (by decide) ⟨rfl, N188, trivial⟩
    show Go _ _ _ _ _ _ _ T105 (mkF m 185 #[.val (.int ish), .val (.int ind), .val (.int iln), .val (.int ie0), .val (.int ie1), .val (.int ie2), .val (.int vp3), .val (.int vp4), .val (.int (0 : Int32)), .val (.int vn), .val (.int (0 : Int32)), .val (.int (1 : Int32)), .val (.int (2 : Int32)), .val (.ref b73), .val (.ref b80), .val (.ref b85), .val (.ref b93), .val (.ref b101), .unset, .unset, .unset, .unset, .unset, .unset, .unset, .unset] [])
    refine Go.step (fun _ k => XS.iload X105.here hx rfl (hb hby at_185) rfl k) ?_
    refine Go.step (fun _ k => XS.iconst X105.here hx rfl (hb hby at_187) k) ?_
    by_cases hc188_191 : vn = (1 : Int32)
    · refine Go.step (fun _ k => XS.icmpNo X105.here hx rfl (hb hby at_188) rfl (teq hc188_191).2 k) ?_
      show Go _ _ _ _ _ _ _ T105 (mkF m 191 #[.val (.int ish), .val (.int ind), .val (.int iln), .val (.int ie0), .val (.int ie1), .val (.int ie2), .val (.int vp3), .val (.int vp4), .val (.int (0 : Int32)), .val (.int vn), .val (.int (0 : Int32)), .val (.int (1 : Int32)), .val (.int (2 : Int32)), .val (.ref b73), .val (.ref b80), .val (.ref b85), .val (.ref b93), .val (.ref b101), .unset, .unset, .unset, .unset, .unset, .unset, .unset, .unset] [])
      refine Go.step (fun _ k => XS.iconst X105.here hx rfl (hb hby at_191) k) ?_
      have f193 : Arv Z h105 b73 k73 .int (5 : Int32) [(.int (-1 : Int32)), (.int (-1 : Int32)), (.int (0 : Int32)), (.int (1 : Int32)), (.int (2 : Int32))] (.int (0 : Int32)) := ((f102.ext E101).keep Kq105 (ninS ne_b73_b101 nin0))
      have f194 : Arv Z h105 b80 k80 .int (3 : Int32) [(.int (1 : Int32)), (.int vp3), (.int vp4)] (.int (0 : Int32)) := ((f103.ext E101).keep Kq105 (ninS ne_b80_b101 nin0))
      have f195 : Arv Z h105 b85 k85 .double (5 : Int32) [(.double (0 : UInt64)), (.double (0 : UInt64)), (.double (4607182418800017408 : UInt64)), (.double (4611686018427387904 : UInt64)), (.double (4613937818241073152 : UInt64))] (.double (0 : UInt64)) := ((f104.ext E101).keep Kq105 (ninS ne_b85_b101 nin0))
      have f196 : Arv Z h105 b93 k93 .int (4 : Int32) [(.int (1 : Int32)), (.int (2 : Int32)), (.int (3 : Int32)), (.int (4 : Int32))] (.int (0 : Int32)) := ((V100.ext E101).keep Kq105 (ninS ne_b93_b101 nin0))
      obtain ⟨T192, h192, k192, X192, e192, E192, A192, st192⟩ := newP X105 hx hZ (hw _ (List.mem_of_getElem? (i := 5) rfl)) e105 (g := (mkF m 192 #[.val (.int ish), .val (.int ind), .val (.int iln), .val (.int ie0), .val (.int ie1), .val (.int ie2), .val (.int vp3), .val (.int vp4), .val (.int (0 : Int32)), .val (.int vn), .val (.int (0 : Int32)), .val (.int (1 : Int32)), .val (.int (2 : Int32)), .val (.ref b73), .val (.ref b80), .val (.ref b85), .val (.ref b93), .val (.ref b101), .unset, .unset, .unset, .unset, .unset, .unset, .unset, .unset] [(.int (0 : Int32))])) rfl (hb hby at_192) rfl (by decide) (cap := 0) (by decide) (by decide) (by decide) (by decide)
      obtain ⟨b192, g192⟩ : ∃ z, z = h105.size := ⟨_, rfl⟩
      rw [← g192] at A192 st192
      refine Go.step st192 ?_
      have g_b192 : n0 ≤ b192 := Nat.le_trans Z105 (Nat.le_of_eq g192.symm)
      have ne_b101_b192 : b101 ≠ b192 := Nat.ne_of_lt (Nat.lt_of_lt_of_le E1_105.lt (Nat.le_of_eq g192.symm))
      have ne_b73_b192 : b73 ≠ b192 := Nat.ne_of_lt (Nat.lt_of_lt_of_le f193.lt (Nat.le_of_eq g192.symm))
      have ne_b80_b192 : b80 ≠ b192 := Nat.ne_of_lt (Nat.lt_of_lt_of_le f194.lt (Nat.le_of_eq g192.symm))
      have ne_b85_b192 : b85 ≠ b192 := Nat.ne_of_lt (Nat.lt_of_lt_of_le f195.lt (Nat.le_of_eq g192.symm))
      have ne_b93_b192 : b93 ≠ b192 := Nat.ne_of_lt (Nat.lt_of_lt_of_le f196.lt (Nat.le_of_eq g192.symm))
      have Z192 : n0 ≤ h192.size := Nat.le_trans Z105 E192.1
      have V192 : Arv Z h192 b192 k192 .int (0 : Int32) [] (.int (0 : Int32)) := Arv.new A192 (by decide)
      have V197 : Arv Z h192 b192 k192 .int (0 : Int32) [] (.int (0 : Int32)) := (V192).pad (pad_rep [] (.int (0 : Int32)) 0)
      show Go _ _ _ _ _ _ _ T192 (mkF m 194 #[.val (.int ish), .val (.int ind), .val (.int iln), .val (.int ie0), .val (.int ie1), .val (.int ie2), .val (.int vp3), .val (.int vp4), .val (.int (0 : Int32)), .val (.int vn), .val (.int (0 : Int32)), .val (.int (1 : Int32)), .val (.int (2 : Int32)), .val (.ref b73), .val (.ref b80), .val (.ref b85), .val (.ref b93), .val (.ref b101), .unset, .unset, .unset, .unset, .unset, .unset, .unset, .unset] [(.ref b192)])
      refine Go.step (fun _ k => XS.astore X192.here hx rfl (hb hby at_194) rfl rfl (l' := #[.val (.int ish), .val (.int ind), .val (.int iln), .val (.int ie0), .val (.int ie1), .val (.int ie2), .val (.int vp3), .val (.int vp4), .val (.int (0 : Int32)), .val (.int vn), .val (.int (0 : Int32)), .val (.int (1 : Int32)), .val (.int (2 : Int32)), .val (.ref b73), .val (.ref b80), .val (.ref b85), .val (.ref b93), .val (.ref b101), .val (.ref b192), .unset, .unset, .unset, .unset, .unset, .unset, .unset]) rfl k) ?_
      show Go _ _ _ _ _ _ _ T192 (mkF m 196 #[.val (.int ish), .val (.int ind), .val (.int iln), .val (.int ie0), .val (.int ie1), .val (.int ie2), .val (.int vp3), .val (.int vp4), .val (.int (0 : Int32)), .val (.int vn), .val (.int (0 : Int32)), .val (.int (1 : Int32)), .val (.int (2 : Int32)), .val (.ref b73), .val (.ref b80), .val (.ref b85), .val (.ref b93), .val (.ref b101), .val (.ref b192), .unset, .unset, .unset, .unset, .unset, .unset, .unset] [])
      refine Go.step (fun _ k => XS.goto X192.here hx rfl (pc0 := 196) (pc' := 348) rfl (hb hby at_196) (by decide) (by decide) k) ?_
      show Go _ _ _ _ _ _ _ T192 (mkF m 348 #[.val (.int ish), .val (.int ind), .val (.int iln), .val (.int ie0), .val (.int ie1), .val (.int ie2), .val (.int vp3), .val (.int vp4), .val (.int (0 : Int32)), .val (.int vn), .val (.int (0 : Int32)), .val (.int (1 : Int32)), .val (.int (2 : Int32)), .val (.ref b73), .val (.ref b80), .val (.ref b85), .val (.ref b93), .val (.ref b101), .val (.ref b192), .unset, .unset, .unset, .unset, .unset, .unset, .unset] [])
      have f198 : Exa Z h192 b101 "com/example/wayfront/wayfront/paths/ShortestPathTree" := (E1_105.ext E192)
      have f199 : Fld Z h192 b101 "com/example/wayfront/wayfront/paths/ShortestPathTree" "predecessor" "[I" (.ref b73) := (Fp_105.ext E192)
      have f200 : Fld Z h192 b101 "com/example/wayfront/wayfront/paths/ShortestPathTree" "tail" "[I" (.ref b80) := (Ft_105.ext E192)
      have f201 : Arv Z h192 b73 k73 .int (5 : Int32) [(.int (-1 : Int32)), (.int (-1 : Int32)), (.int (0 : Int32)), (.int (1 : Int32)), (.int (2 : Int32))] (.int (0 : Int32)) := (f193.ext E192)
      have f202 : Arv Z h192 b80 k80 .int (3 : Int32) [(.int (1 : Int32)), (.int vp3), (.int vp4)] (.int (0 : Int32)) := (f194.ext E192)
      exact J T192 h192 _ b192 k192 (0 : Int32) ([] : List Int32) ([] : List Int32) (X192.more (by decide) (by decide)) e192 N105 Z192 f198 f199 f200 f201 f202 V197 rfl (by decide) (by decide) rfl (by have e_vn : vn = 1 := hc188_191; rw [e_vn]; exact ⟨(show 0 ≤ (1 : Int32).toInt ∧ (1 : Int32).toInt < 5 from by decide), (show (-1 : Int32) < 0 from by decide)⟩)
    · refine Go.step (fun _ k => XS.icmpYes X105.here hx rfl (pc0 := 188) (pc' := 199) rfl (hb hby at_188) rfl (feq hc188_191).2 (by decide) (by decide) k) ?_
      show Go _ _ _ _ _ _ _ T105 (mkF m 199 #[.val (.int ish), .val (.int ind), .val (.int iln), .val (.int ie0), .val (.int ie1), .val (.int ie2), .val (.int vp3), .val (.int vp4), .val (.int (0 : Int32)), .val (.int vn), .val (.int (0 : Int32)), .val (.int (1 : Int32)), .val (.int (2 : Int32)), .val (.ref b73), .val (.ref b80), .val (.ref b85), .val (.ref b93), .val (.ref b101), .unset, .unset, .unset, .unset, .unset, .unset, .unset, .unset] [])
      refine Go.step (fun _ k => XS.iload X105.here hx rfl (hb hby at_199) rfl k) ?_
      refine Go.step (fun _ k => XS.iconst X105.here hx rfl (hb hby at_201) k) ?_
      by_cases hc202_203 : vn = (2 : Int32)
      · refine Go.step (fun _ k => XS.icmpNo X105.here hx rfl (hb hby at_202) rfl (teq hc202_203).2 k) ?_
        show Go _ _ _ _ _ _ _ T105 (mkF m 205 #[.val (.int ish), .val (.int ind), .val (.int iln), .val (.int ie0), .val (.int ie1), .val (.int ie2), .val (.int vp3), .val (.int vp4), .val (.int (0 : Int32)), .val (.int vn), .val (.int (0 : Int32)), .val (.int (1 : Int32)), .val (.int (2 : Int32)), .val (.ref b73), .val (.ref b80), .val (.ref b85), .val (.ref b93), .val (.ref b101), .unset, .unset, .unset, .unset, .unset, .unset, .unset, .unset] [])
        refine Go.step (fun _ k => XS.iconst X105.here hx rfl (hb hby at_205) k) ?_
        have f205 : Arv Z h105 b73 k73 .int (5 : Int32) [(.int (-1 : Int32)), (.int (-1 : Int32)), (.int (0 : Int32)), (.int (1 : Int32)), (.int (2 : Int32))] (.int (0 : Int32)) := ((f102.ext E101).keep Kq105 (ninS ne_b73_b101 nin0))
        have f206 : Arv Z h105 b80 k80 .int (3 : Int32) [(.int (1 : Int32)), (.int vp3), (.int vp4)] (.int (0 : Int32)) := ((f103.ext E101).keep Kq105 (ninS ne_b80_b101 nin0))
        have f207 : Arv Z h105 b85 k85 .double (5 : Int32) [(.double (0 : UInt64)), (.double (0 : UInt64)), (.double (4607182418800017408 : UInt64)), (.double (4611686018427387904 : UInt64)), (.double (4613937818241073152 : UInt64))] (.double (0 : UInt64)) := ((f104.ext E101).keep Kq105 (ninS ne_b85_b101 nin0))
        have f208 : Arv Z h105 b93 k93 .int (4 : Int32) [(.int (1 : Int32)), (.int (2 : Int32)), (.int (3 : Int32)), (.int (4 : Int32))] (.int (0 : Int32)) := ((V100.ext E101).keep Kq105 (ninS ne_b93_b101 nin0))
        obtain ⟨T204, h204, k204, X204, e204, E204, A204, st204⟩ := newP X105 hx hZ (hw _ (List.mem_of_getElem? (i := 5) rfl)) e105 (g := (mkF m 206 #[.val (.int ish), .val (.int ind), .val (.int iln), .val (.int ie0), .val (.int ie1), .val (.int ie2), .val (.int vp3), .val (.int vp4), .val (.int (0 : Int32)), .val (.int vn), .val (.int (0 : Int32)), .val (.int (1 : Int32)), .val (.int (2 : Int32)), .val (.ref b73), .val (.ref b80), .val (.ref b85), .val (.ref b93), .val (.ref b101), .unset, .unset, .unset, .unset, .unset, .unset, .unset, .unset] [(.int (1 : Int32))])) rfl (hb hby at_206) rfl (by decide) (cap := 1) (by decide) (by decide) (by decide) (by decide)
        obtain ⟨b204, g204⟩ : ∃ z, z = h105.size := ⟨_, rfl⟩
        rw [← g204] at A204 st204
        refine Go.step st204 ?_
        have g_b204 : n0 ≤ b204 := Nat.le_trans Z105 (Nat.le_of_eq g204.symm)
        have ne_b101_b204 : b101 ≠ b204 := Nat.ne_of_lt (Nat.lt_of_lt_of_le E1_105.lt (Nat.le_of_eq g204.symm))
        have ne_b73_b204 : b73 ≠ b204 := Nat.ne_of_lt (Nat.lt_of_lt_of_le f205.lt (Nat.le_of_eq g204.symm))
        have ne_b80_b204 : b80 ≠ b204 := Nat.ne_of_lt (Nat.lt_of_lt_of_le f206.lt (Nat.le_of_eq g204.symm))
        have ne_b85_b204 : b85 ≠ b204 := Nat.ne_of_lt (Nat.lt_of_lt_of_le f207.lt (Nat.le_of_eq g204.symm))
        have ne_b93_b204 : b93 ≠ b204 := Nat.ne_of_lt (Nat.lt_of_lt_of_le f208.lt (Nat.le_of_eq g204.symm))
        have Z204 : n0 ≤ h204.size := Nat.le_trans Z105 E204.1
        have V204 : Arv Z h204 b204 k204 .int (1 : Int32) [] (.int (0 : Int32)) := Arv.new A204 (by decide)
        have V209 : Arv Z h204 b204 k204 .int (1 : Int32) [(.int (0 : Int32))] (.int (0 : Int32)) := (V204).pad (pad_rep [] (.int (0 : Int32)) 1)
        show Go _ _ _ _ _ _ _ T204 (mkF m 208 #[.val (.int ish), .val (.int ind), .val (.int iln), .val (.int ie0), .val (.int ie1), .val (.int ie2), .val (.int vp3), .val (.int vp4), .val (.int (0 : Int32)), .val (.int vn), .val (.int (0 : Int32)), .val (.int (1 : Int32)), .val (.int (2 : Int32)), .val (.ref b73), .val (.ref b80), .val (.ref b85), .val (.ref b93), .val (.ref b101), .unset, .unset, .unset, .unset, .unset, .unset, .unset, .unset] [(.ref b204)])
        refine Go.step (fun _ k => XS.dup X204.here hx rfl (hb hby at_208) rfl rfl k) ?_
        refine Go.step (fun _ k => XS.iconst X204.here hx rfl (hb hby at_209) k) ?_
        refine Go.step (fun _ k => XS.iload X204.here hx rfl (hb hby at_210) rfl k) ?_
        obtain ⟨cl210, Ar210, q210, S210, M210, H210, G210⟩ := id (V209)
        have hin210 : ¬ ((0 : Int32) < 0 ∨ cl210.slots.size ≤ ((0 : Int32)).toNatClampNeg) := inb_of S210 ⟨by decide, by decide⟩
        obtain ⟨T210, h210, X210, e210, W210, st210⟩ := stI X204 hx hZ e204 Ar210 (j := (0 : Int32)) hin210 (g := (mkF m 212 #[.val (.int ish), .val (.int ind), .val (.int iln), .val (.int ie0), .val (.int ie1), .val (.int ie2), .val (.int vp3), .val (.int vp4), .val (.int (0 : Int32)), .val (.int vn), .val (.int (0 : Int32)), .val (.int (1 : Int32)), .val (.int (2 : Int32)), .val (.ref b73), .val (.ref b80), .val (.ref b85), .val (.ref b93), .val (.ref b101), .unset, .unset, .unset, .unset, .unset, .unset, .unset, .unset] [(.int (0 : Int32)), (.int (0 : Int32)), (.ref b204), (.ref b204)])) rfl rfl (hb hby at_212)
        refine Go.step st210 ?_
        have V210 : Arv Z h210 b204 k204 .int (1 : Int32) [(.int (0 : Int32))] (.int (0 : Int32)) := Arv.set Ar210 q210 S210 M210 H210 G210 rfl W210 0 rfl (Nat.le_of_ble_eq_true rfl)
        have N210 := Fr.snoc X210 N105 g_b204
        have Z210 : n0 ≤ h210.size := Nat.le_trans Z204 (Keep.of_wr W210).1
        show Go _ _ _ _ _ _ _ T210 (mkF m 213 #[.val (.int ish), .val (.int ind), .val (.int iln), .val (.int ie0), .val (.int ie1), .val (.int ie2), .val (.int vp3), .val (.int vp4), .val (.int (0 : Int32)), .val (.int vn), .val (.int (0 : Int32)), .val (.int (1 : Int32)), .val (.int (2 : Int32)), .val (.ref b73), .val (.ref b80), .val (.ref b85), .val (.ref b93), .val (.ref b101), .unset, .unset, .unset, .unset, .unset, .unset, .unset, .unset] [(.ref b204)])
        refine Go.step (fun _ k => XS.astore X210.here hx rfl (hb hby at_213) rfl rfl (l' := #[.val (.int ish), .val (.int ind), .val (.int iln), .val (.int ie0), .val (.int ie1), .val (.int ie2), .val (.int vp3), .val (.int vp4), .val (.int (0 : Int32)), .val (.int vn), .val (.int (0 : Int32)), .val (.int (1 : Int32)), .val (.int (2 : Int32)), .val (.ref b73), .val (.ref b80), .val (.ref b85), .val (.ref b93), .val (.ref b101), .val (.ref b204), .unset, .unset, .unset, .unset, .unset, .unset, .unset]) rfl k) ?_
        show Go _ _ _ _ _ _ _ T210 (mkF m 215 #[.val (.int ish), .val (.int ind), .val (.int iln), .val (.int ie0), .val (.int ie1), .val (.int ie2), .val (.int vp3), .val (.int vp4), .val (.int (0 : Int32)), .val (.int vn), .val (.int (0 : Int32)), .val (.int (1 : Int32)), .val (.int (2 : Int32)), .val (.ref b73), .val (.ref b80), .val (.ref b85), .val (.ref b93), .val (.ref b101), .val (.ref b204), .unset, .unset, .unset, .unset, .unset, .unset, .unset] [])
        refine Go.step (fun _ k => XS.goto X210.here hx rfl (pc0 := 215) (pc' := 348) rfl (hb hby at_215) (by decide) (by decide) k) ?_
        show Go _ _ _ _ _ _ _ T210 (mkF m 348 #[.val (.int ish), .val (.int ind), .val (.int iln), .val (.int ie0), .val (.int ie1), .val (.int ie2), .val (.int vp3), .val (.int vp4), .val (.int (0 : Int32)), .val (.int vn), .val (.int (0 : Int32)), .val (.int (1 : Int32)), .val (.int (2 : Int32)), .val (.ref b73), .val (.ref b80), .val (.ref b85), .val (.ref b93), .val (.ref b101), .val (.ref b204), .unset, .unset, .unset, .unset, .unset, .unset, .unset] [])
        have f211 : Exa Z h210 b101 "com/example/wayfront/wayfront/paths/ShortestPathTree" := ((E1_105.ext E204).wr W210)
        have f212 : Fld Z h210 b101 "com/example/wayfront/wayfront/paths/ShortestPathTree" "predecessor" "[I" (.ref b73) := ((Fp_105.ext E204).other W210 (Or.inl ne_b101_b204))
        have f213 : Fld Z h210 b101 "com/example/wayfront/wayfront/paths/ShortestPathTree" "tail" "[I" (.ref b80) := ((Ft_105.ext E204).other W210 (Or.inl ne_b101_b204))
        have f214 : Arv Z h210 b73 k73 .int (5 : Int32) [(.int (-1 : Int32)), (.int (-1 : Int32)), (.int (0 : Int32)), (.int (1 : Int32)), (.int (2 : Int32))] (.int (0 : Int32)) := ((f205.ext E204).other W210 ne_b73_b204)
        have f215 : Arv Z h210 b80 k80 .int (3 : Int32) [(.int (1 : Int32)), (.int vp3), (.int vp4)] (.int (0 : Int32)) := ((f206.ext E204).other W210 ne_b80_b204)
        exact J T210 h210 _ b204 k204 (1 : Int32) ([(0 : Int32)] : List Int32) ([0] : List Int32) (X210.more (by decide) (by decide)) e210 N210 Z210 f211 f212 f213 f214 f215 V210 rfl (by decide) (by decide) rfl (by have e_vn : vn = 2 := hc202_203; rw [e_vn]; exact ⟨(show 0 ≤ (2 : Int32).toInt ∧ (2 : Int32).toInt < 5 from by decide), rfl, (show 0 ≤ (0 : Int32).toInt ∧ (0 : Int32).toInt < 3 from by decide), ⟨(show 0 ≤ (1 : Int32).toInt ∧ (1 : Int32).toInt < 5 from by decide), (show (-1 : Int32) < 0 from by decide)⟩⟩)
      · refine Go.step (fun _ k => XS.icmpYes X105.here hx rfl (pc0 := 202) (pc' := 218) rfl (hb hby at_202) rfl (feq hc202_203).2 (by decide) (by decide) k) ?_
        show Go _ _ _ _ _ _ _ T105 (mkF m 218 #[.val (.int ish), .val (.int ind), .val (.int iln), .val (.int ie0), .val (.int ie1), .val (.int ie2), .val (.int vp3), .val (.int vp4), .val (.int (0 : Int32)), .val (.int vn), .val (.int (0 : Int32)), .val (.int (1 : Int32)), .val (.int (2 : Int32)), .val (.ref b73), .val (.ref b80), .val (.ref b85), .val (.ref b93), .val (.ref b101), .unset, .unset, .unset, .unset, .unset, .unset, .unset, .unset] [])
        refine Go.step (fun _ k => XS.iload X105.here hx rfl (hb hby at_218) rfl k) ?_
        refine Go.step (fun _ k => XS.iconst X105.here hx rfl (hb hby at_220) k) ?_
        by_cases hc221_216 : vn = (3 : Int32)
        · refine Go.step (fun _ k => XS.icmpNo X105.here hx rfl (hb hby at_221) rfl (teq hc221_216).2 k) ?_
          show Go _ _ _ _ _ _ _ T105 (mkF m 224 #[.val (.int ish), .val (.int ind), .val (.int iln), .val (.int ie0), .val (.int ie1), .val (.int ie2), .val (.int vp3), .val (.int vp4), .val (.int (0 : Int32)), .val (.int vn), .val (.int (0 : Int32)), .val (.int (1 : Int32)), .val (.int (2 : Int32)), .val (.ref b73), .val (.ref b80), .val (.ref b85), .val (.ref b93), .val (.ref b101), .unset, .unset, .unset, .unset, .unset, .unset, .unset, .unset] [])
          refine Go.step (fun _ k => XS.iload X105.here hx rfl (hb hby at_224) rfl k) ?_
          refine Go.step (fun _ k => XS.iconst X105.here hx rfl (hb hby at_226) k) ?_
          by_cases hc227_217 : vp3 = (1 : Int32)
          · refine Go.step (fun _ k => XS.icmpNo X105.here hx rfl (hb hby at_227) rfl (teq hc227_217).2 k) ?_
            show Go _ _ _ _ _ _ _ T105 (mkF m 230 #[.val (.int ish), .val (.int ind), .val (.int iln), .val (.int ie0), .val (.int ie1), .val (.int ie2), .val (.int vp3), .val (.int vp4), .val (.int (0 : Int32)), .val (.int vn), .val (.int (0 : Int32)), .val (.int (1 : Int32)), .val (.int (2 : Int32)), .val (.ref b73), .val (.ref b80), .val (.ref b85), .val (.ref b93), .val (.ref b101), .unset, .unset, .unset, .unset, .unset, .unset, .unset, .unset] [])
            refine Go.step (fun _ k => XS.iconst X105.here hx rfl (hb hby at_230) k) ?_
            have f219 : Arv Z h105 b73 k73 .int (5 : Int32) [(.int (-1 : Int32)), (.int (-1 : Int32)), (.int (0 : Int32)), (.int (1 : Int32)), (.int (2 : Int32))] (.int (0 : Int32)) := ((f102.ext E101).keep Kq105 (ninS ne_b73_b101 nin0))
            have f220 : Arv Z h105 b80 k80 .int (3 : Int32) [(.int (1 : Int32)), (.int vp3), (.int vp4)] (.int (0 : Int32)) := ((f103.ext E101).keep Kq105 (ninS ne_b80_b101 nin0))
            have f221 : Arv Z h105 b85 k85 .double (5 : Int32) [(.double (0 : UInt64)), (.double (0 : UInt64)), (.double (4607182418800017408 : UInt64)), (.double (4611686018427387904 : UInt64)), (.double (4613937818241073152 : UInt64))] (.double (0 : UInt64)) := ((f104.ext E101).keep Kq105 (ninS ne_b85_b101 nin0))
            have f222 : Arv Z h105 b93 k93 .int (4 : Int32) [(.int (1 : Int32)), (.int (2 : Int32)), (.int (3 : Int32)), (.int (4 : Int32))] (.int (0 : Int32)) := ((V100.ext E101).keep Kq105 (ninS ne_b93_b101 nin0))
            obtain ⟨T218, h218, k218, X218, e218, E218, A218, st218⟩ := newP X105 hx hZ (hw _ (List.mem_of_getElem? (i := 5) rfl)) e105 (g := (mkF m 231 #[.val (.int ish), .val (.int ind), .val (.int iln), .val (.int ie0), .val (.int ie1), .val (.int ie2), .val (.int vp3), .val (.int vp4), .val (.int (0 : Int32)), .val (.int vn), .val (.int (0 : Int32)), .val (.int (1 : Int32)), .val (.int (2 : Int32)), .val (.ref b73), .val (.ref b80), .val (.ref b85), .val (.ref b93), .val (.ref b101), .unset, .unset, .unset, .unset, .unset, .unset, .unset, .unset] [(.int (1 : Int32))])) rfl (hb hby at_231) rfl (by decide) (cap := 1) (by decide) (by decide) (by decide) (by decide)
            obtain ⟨b218, g218⟩ : ∃ z, z = h105.size := ⟨_, rfl⟩
            rw [← g218] at A218 st218
            refine Go.step st218 ?_
            have g_b218 : n0 ≤ b218 := Nat.le_trans Z105 (Nat.le_of_eq g218.symm)
            have ne_b101_b218 : b101 ≠ b218 := Nat.ne_of_lt (Nat.lt_of_lt_of_le E1_105.lt (Nat.le_of_eq g218.symm))
            have ne_b73_b218 : b73 ≠ b218 := Nat.ne_of_lt (Nat.lt_of_lt_of_le f219.lt (Nat.le_of_eq g218.symm))
            have ne_b80_b218 : b80 ≠ b218 := Nat.ne_of_lt (Nat.lt_of_lt_of_le f220.lt (Nat.le_of_eq g218.symm))
            have ne_b85_b218 : b85 ≠ b218 := Nat.ne_of_lt (Nat.lt_of_lt_of_le f221.lt (Nat.le_of_eq g218.symm))
            have ne_b93_b218 : b93 ≠ b218 := Nat.ne_of_lt (Nat.lt_of_lt_of_le f222.lt (Nat.le_of_eq g218.symm))
            have Z218 : n0 ≤ h218.size := Nat.le_trans Z105 E218.1
            have V218 : Arv Z h218 b218 k218 .int (1 : Int32) [] (.int (0 : Int32)) := Arv.new A218 (by decide)
            have V223 : Arv Z h218 b218 k218 .int (1 : Int32) [(.int (0 : Int32))] (.int (0 : Int32)) := (V218).pad (pad_rep [] (.int (0 : Int32)) 1)
            show Go _ _ _ _ _ _ _ T218 (mkF m 233 #[.val (.int ish), .val (.int ind), .val (.int iln), .val (.int ie0), .val (.int ie1), .val (.int ie2), .val (.int vp3), .val (.int vp4), .val (.int (0 : Int32)), .val (.int vn), .val (.int (0 : Int32)), .val (.int (1 : Int32)), .val (.int (2 : Int32)), .val (.ref b73), .val (.ref b80), .val (.ref b85), .val (.ref b93), .val (.ref b101), .unset, .unset, .unset, .unset, .unset, .unset, .unset, .unset] [(.ref b218)])
            refine Go.step (fun _ k => XS.dup X218.here hx rfl (hb hby at_233) rfl rfl k) ?_
            refine Go.step (fun _ k => XS.iconst X218.here hx rfl (hb hby at_234) k) ?_
            refine Go.step (fun _ k => XS.iload X218.here hx rfl (hb hby at_235) rfl k) ?_
            obtain ⟨cl224, Ar224, q224, S224, M224, H224, G224⟩ := id (V223)
            have hin224 : ¬ ((0 : Int32) < 0 ∨ cl224.slots.size ≤ ((0 : Int32)).toNatClampNeg) := inb_of S224 ⟨by decide, by decide⟩
            obtain ⟨T224, h224, X224, e224, W224, st224⟩ := stI X218 hx hZ e218 Ar224 (j := (0 : Int32)) hin224 (g := (mkF m 237 #[.val (.int ish), .val (.int ind), .val (.int iln), .val (.int ie0), .val (.int ie1), .val (.int ie2), .val (.int vp3), .val (.int vp4), .val (.int (0 : Int32)), .val (.int vn), .val (.int (0 : Int32)), .val (.int (1 : Int32)), .val (.int (2 : Int32)), .val (.ref b73), .val (.ref b80), .val (.ref b85), .val (.ref b93), .val (.ref b101), .unset, .unset, .unset, .unset, .unset, .unset, .unset, .unset] [(.int (1 : Int32)), (.int (0 : Int32)), (.ref b218), (.ref b218)])) rfl rfl (hb hby at_237)
            refine Go.step st224 ?_
            have V224 : Arv Z h224 b218 k218 .int (1 : Int32) [(.int (1 : Int32))] (.int (0 : Int32)) := Arv.set Ar224 q224 S224 M224 H224 G224 rfl W224 0 rfl (Nat.le_of_ble_eq_true rfl)
            have N224 := Fr.snoc X224 N105 g_b218
            have Z224 : n0 ≤ h224.size := Nat.le_trans Z218 (Keep.of_wr W224).1
            show Go _ _ _ _ _ _ _ T224 (mkF m 238 #[.val (.int ish), .val (.int ind), .val (.int iln), .val (.int ie0), .val (.int ie1), .val (.int ie2), .val (.int vp3), .val (.int vp4), .val (.int (0 : Int32)), .val (.int vn), .val (.int (0 : Int32)), .val (.int (1 : Int32)), .val (.int (2 : Int32)), .val (.ref b73), .val (.ref b80), .val (.ref b85), .val (.ref b93), .val (.ref b101), .unset, .unset, .unset, .unset, .unset, .unset, .unset, .unset] [(.ref b218)])
            refine Go.step (fun _ k => XS.astore X224.here hx rfl (hb hby at_238) rfl rfl (l' := #[.val (.int ish), .val (.int ind), .val (.int iln), .val (.int ie0), .val (.int ie1), .val (.int ie2), .val (.int vp3), .val (.int vp4), .val (.int (0 : Int32)), .val (.int vn), .val (.int (0 : Int32)), .val (.int (1 : Int32)), .val (.int (2 : Int32)), .val (.ref b73), .val (.ref b80), .val (.ref b85), .val (.ref b93), .val (.ref b101), .val (.ref b218), .unset, .unset, .unset, .unset, .unset, .unset, .unset]) rfl k) ?_
            show Go _ _ _ _ _ _ _ T224 (mkF m 240 #[.val (.int ish), .val (.int ind), .val (.int iln), .val (.int ie0), .val (.int ie1), .val (.int ie2), .val (.int vp3), .val (.int vp4), .val (.int (0 : Int32)), .val (.int vn), .val (.int (0 : Int32)), .val (.int (1 : Int32)), .val (.int (2 : Int32)), .val (.ref b73), .val (.ref b80), .val (.ref b85), .val (.ref b93), .val (.ref b101), .val (.ref b218), .unset, .unset, .unset, .unset, .unset, .unset, .unset] [])
            refine Go.step (fun _ k => XS.goto X224.here hx rfl (pc0 := 240) (pc' := 348) rfl (hb hby at_240) (by decide) (by decide) k) ?_
            show Go _ _ _ _ _ _ _ T224 (mkF m 348 #[.val (.int ish), .val (.int ind), .val (.int iln), .val (.int ie0), .val (.int ie1), .val (.int ie2), .val (.int vp3), .val (.int vp4), .val (.int (0 : Int32)), .val (.int vn), .val (.int (0 : Int32)), .val (.int (1 : Int32)), .val (.int (2 : Int32)), .val (.ref b73), .val (.ref b80), .val (.ref b85), .val (.ref b93), .val (.ref b101), .val (.ref b218), .unset, .unset, .unset, .unset, .unset, .unset, .unset] [])
            have f225 : Exa Z h224 b101 "com/example/wayfront/wayfront/paths/ShortestPathTree" := ((E1_105.ext E218).wr W224)
            have f226 : Fld Z h224 b101 "com/example/wayfront/wayfront/paths/ShortestPathTree" "predecessor" "[I" (.ref b73) := ((Fp_105.ext E218).other W224 (Or.inl ne_b101_b218))
            have f227 : Fld Z h224 b101 "com/example/wayfront/wayfront/paths/ShortestPathTree" "tail" "[I" (.ref b80) := ((Ft_105.ext E218).other W224 (Or.inl ne_b101_b218))
            have f228 : Arv Z h224 b73 k73 .int (5 : Int32) [(.int (-1 : Int32)), (.int (-1 : Int32)), (.int (0 : Int32)), (.int (1 : Int32)), (.int (2 : Int32))] (.int (0 : Int32)) := ((f219.ext E218).other W224 ne_b73_b218)
            have f229 : Arv Z h224 b80 k80 .int (3 : Int32) [(.int (1 : Int32)), (.int vp3), (.int vp4)] (.int (0 : Int32)) := ((f220.ext E218).other W224 ne_b80_b218)
            exact J T224 h224 _ b218 k218 (1 : Int32) ([(1 : Int32)] : List Int32) ([1] : List Int32) (X224.more (by decide) (by decide)) e224 N224 Z224 f225 f226 f227 f228 f229 V224 rfl (by decide) (by decide) rfl (by have e_vn : vn = 3 := hc221_216; have e_p3 : vp3 = 1 := hc227_217; rw [e_vn, e_p3]; exact ⟨(show 0 ≤ (3 : Int32).toInt ∧ (3 : Int32).toInt < 5 from by decide), rfl, (show 0 ≤ (1 : Int32).toInt ∧ (1 : Int32).toInt < 3 from by decide), ⟨(show 0 ≤ (1 : Int32).toInt ∧ (1 : Int32).toInt < 5 from by decide), (show (-1 : Int32) < 0 from by decide)⟩⟩)
          · refine Go.step (fun _ k => XS.icmpYes X105.here hx rfl (pc0 := 227) (pc' := 243) rfl (hb hby at_227) rfl (feq hc227_217).2 (by decide) (by decide) k) ?_
            show Go _ _ _ _ _ _ _ T105 (mkF m 243 #[.val (.int ish), .val (.int ind), .val (.int iln), .val (.int ie0), .val (.int ie1), .val (.int ie2), .val (.int vp3), .val (.int vp4), .val (.int (0 : Int32)), .val (.int vn), .val (.int (0 : Int32)), .val (.int (1 : Int32)), .val (.int (2 : Int32)), .val (.ref b73), .val (.ref b80), .val (.ref b85), .val (.ref b93), .val (.ref b101), .unset, .unset, .unset, .unset, .unset, .unset, .unset, .unset] [])
            refine Go.step (fun _ k => XS.iconst X105.here hx rfl (hb hby at_243) k) ?_
            have f231 : Arv Z h105 b73 k73 .int (5 : Int32) [(.int (-1 : Int32)), (.int (-1 : Int32)), (.int (0 : Int32)), (.int (1 : Int32)), (.int (2 : Int32))] (.int (0 : Int32)) := ((f102.ext E101).keep Kq105 (ninS ne_b73_b101 nin0))
            have f232 : Arv Z h105 b80 k80 .int (3 : Int32) [(.int (1 : Int32)), (.int vp3), (.int vp4)] (.int (0 : Int32)) := ((f103.ext E101).keep Kq105 (ninS ne_b80_b101 nin0))
            have f233 : Arv Z h105 b85 k85 .double (5 : Int32) [(.double (0 : UInt64)), (.double (0 : UInt64)), (.double (4607182418800017408 : UInt64)), (.double (4611686018427387904 : UInt64)), (.double (4613937818241073152 : UInt64))] (.double (0 : UInt64)) := ((f104.ext E101).keep Kq105 (ninS ne_b85_b101 nin0))
            have f234 : Arv Z h105 b93 k93 .int (4 : Int32) [(.int (1 : Int32)), (.int (2 : Int32)), (.int (3 : Int32)), (.int (4 : Int32))] (.int (0 : Int32)) := ((V100.ext E101).keep Kq105 (ninS ne_b93_b101 nin0))
            obtain ⟨T230, h230, k230, X230, e230, E230, A230, st230⟩ := newP X105 hx hZ (hw _ (List.mem_of_getElem? (i := 5) rfl)) e105 (g := (mkF m 244 #[.val (.int ish), .val (.int ind), .val (.int iln), .val (.int ie0), .val (.int ie1), .val (.int ie2), .val (.int vp3), .val (.int vp4), .val (.int (0 : Int32)), .val (.int vn), .val (.int (0 : Int32)), .val (.int (1 : Int32)), .val (.int (2 : Int32)), .val (.ref b73), .val (.ref b80), .val (.ref b85), .val (.ref b93), .val (.ref b101), .unset, .unset, .unset, .unset, .unset, .unset, .unset, .unset] [(.int (2 : Int32))])) rfl (hb hby at_244) rfl (by decide) (cap := 2) (by decide) (by decide) (by decide) (by decide)
            obtain ⟨b230, g230⟩ : ∃ z, z = h105.size := ⟨_, rfl⟩
            rw [← g230] at A230 st230
            refine Go.step st230 ?_
            have g_b230 : n0 ≤ b230 := Nat.le_trans Z105 (Nat.le_of_eq g230.symm)
            have ne_b101_b230 : b101 ≠ b230 := Nat.ne_of_lt (Nat.lt_of_lt_of_le E1_105.lt (Nat.le_of_eq g230.symm))
            have ne_b73_b230 : b73 ≠ b230 := Nat.ne_of_lt (Nat.lt_of_lt_of_le f231.lt (Nat.le_of_eq g230.symm))
            have ne_b80_b230 : b80 ≠ b230 := Nat.ne_of_lt (Nat.lt_of_lt_of_le f232.lt (Nat.le_of_eq g230.symm))
            have ne_b85_b230 : b85 ≠ b230 := Nat.ne_of_lt (Nat.lt_of_lt_of_le f233.lt (Nat.le_of_eq g230.symm))
            have ne_b93_b230 : b93 ≠ b230 := Nat.ne_of_lt (Nat.lt_of_lt_of_le f234.lt (Nat.le_of_eq g230.symm))
            have Z230 : n0 ≤ h230.size := Nat.le_trans Z105 E230.1
            have V230 : Arv Z h230 b230 k230 .int (2 : Int32) [] (.int (0 : Int32)) := Arv.new A230 (by decide)
            have V235 : Arv Z h230 b230 k230 .int (2 : Int32) [(.int (0 : Int32)), (.int (0 : Int32))] (.int (0 : Int32)) := (V230).pad (pad_rep [] (.int (0 : Int32)) 2)
            show Go _ _ _ _ _ _ _ T230 (mkF m 246 #[.val (.int ish), .val (.int ind), .val (.int iln), .val (.int ie0), .val (.int ie1), .val (.int ie2), .val (.int vp3), .val (.int vp4), .val (.int (0 : Int32)), .val (.int vn), .val (.int (0 : Int32)), .val (.int (1 : Int32)), .val (.int (2 : Int32)), .val (.ref b73), .val (.ref b80), .val (.ref b85), .val (.ref b93), .val (.ref b101), .unset, .unset, .unset, .unset, .unset, .unset, .unset, .unset] [(.ref b230)])
            refine Go.step (fun _ k => XS.dup X230.here hx rfl (hb hby at_246) rfl rfl k) ?_
            refine Go.step (fun _ k => XS.iconst X230.here hx rfl (hb hby at_247) k) ?_
            refine Go.step (fun _ k => XS.iload X230.here hx rfl (hb hby at_248) rfl k) ?_
            obtain ⟨cl236, Ar236, q236, S236, M236, H236, G236⟩ := id (V235)
            have hin236 : ¬ ((0 : Int32) < 0 ∨ cl236.slots.size ≤ ((0 : Int32)).toNatClampNeg) := inb_of S236 ⟨by decide, by decide⟩
            obtain ⟨T236, h236, X236, e236, W236, st236⟩ := stI X230 hx hZ e230 Ar236 (j := (0 : Int32)) hin236 (g := (mkF m 250 #[.val (.int ish), .val (.int ind), .val (.int iln), .val (.int ie0), .val (.int ie1), .val (.int ie2), .val (.int vp3), .val (.int vp4), .val (.int (0 : Int32)), .val (.int vn), .val (.int (0 : Int32)), .val (.int (1 : Int32)), .val (.int (2 : Int32)), .val (.ref b73), .val (.ref b80), .val (.ref b85), .val (.ref b93), .val (.ref b101), .unset, .unset, .unset, .unset, .unset, .unset, .unset, .unset] [(.int (0 : Int32)), (.int (0 : Int32)), (.ref b230), (.ref b230)])) rfl rfl (hb hby at_250)
            refine Go.step st236 ?_
            have V236 : Arv Z h236 b230 k230 .int (2 : Int32) [(.int (0 : Int32)), (.int (0 : Int32))] (.int (0 : Int32)) := Arv.set Ar236 q236 S236 M236 H236 G236 rfl W236 0 rfl (Nat.le_of_ble_eq_true rfl)
            have N236 := Fr.snoc X236 N105 g_b230
            have Z236 : n0 ≤ h236.size := Nat.le_trans Z230 (Keep.of_wr W236).1
            show Go _ _ _ _ _ _ _ T236 (mkF m 251 #[.val (.int ish), .val (.int ind), .val (.int iln), .val (.int ie0), .val (.int ie1), .val (.int ie2), .val (.int vp3), .val (.int vp4), .val (.int (0 : Int32)), .val (.int vn), .val (.int (0 : Int32)), .val (.int (1 : Int32)), .val (.int (2 : Int32)), .val (.ref b73), .val (.ref b80), .val (.ref b85), .val (.ref b93), .val (.ref b101), .unset, .unset, .unset, .unset, .unset, .unset, .unset, .unset] [(.ref b230)])
            refine Go.step (fun _ k => XS.dup X236.here hx rfl (hb hby at_251) rfl rfl k) ?_
            refine Go.step (fun _ k => XS.iconst X236.here hx rfl (hb hby at_252) k) ?_
            refine Go.step (fun _ k => XS.iload X236.here hx rfl (hb hby at_253) rfl k) ?_
            obtain ⟨cl237, Ar237, q237, S237, M237, H237, G237⟩ := id (V236)
            have hin237 : ¬ ((1 : Int32) < 0 ∨ cl237.slots.size ≤ ((1 : Int32)).toNatClampNeg) := inb_of S237 ⟨by decide, by decide⟩
            obtain ⟨T237, h237, X237, e237, W237, st237⟩ := stI X236 hx hZ e236 Ar237 (j := (1 : Int32)) hin237 (g := (mkF m 255 #[.val (.int ish), .val (.int ind), .val (.int iln), .val (.int ie0), .val (.int ie1), .val (.int ie2), .val (.int vp3), .val (.int vp4), .val (.int (0 : Int32)), .val (.int vn), .val (.int (0 : Int32)), .val (.int (1 : Int32)), .val (.int (2 : Int32)), .val (.ref b73), .val (.ref b80), .val (.ref b85), .val (.ref b93), .val (.ref b101), .unset, .unset, .unset, .unset, .unset, .unset, .unset, .unset] [(.int (1 : Int32)), (.int (1 : Int32)), (.ref b230), (.ref b230)])) rfl rfl (hb hby at_255)
            refine Go.step st237 ?_
            have V237 : Arv Z h237 b230 k230 .int (2 : Int32) [(.int (0 : Int32)), (.int (1 : Int32))] (.int (0 : Int32)) := Arv.set Ar237 q237 S237 M237 H237 G237 rfl W237 1 rfl (Nat.le_of_ble_eq_true rfl)
            have N237 := Fr.snoc X237 N236 g_b230
            have Z237 : n0 ≤ h237.size := Nat.le_trans Z236 (Keep.of_wr W237).1
            show Go _ _ _ _ _ _ _ T237 (mkF m 256 #[.val (.int ish), .val (.int ind), .val (.int iln), .val (.int ie0), .val (.int ie1), .val (.int ie2), .val (.int vp3), .val (.int vp4), .val (.int (0 : Int32)), .val (.int vn), .val (.int (0 : Int32)), .val (.int (1 : Int32)), .val (.int (2 : Int32)), .val (.ref b73), .val (.ref b80), .val (.ref b85), .val (.ref b93), .val (.ref b101), .unset, .unset, .unset, .unset, .unset, .unset, .unset, .unset] [(.ref b230)])
            refine Go.step (fun _ k => XS.astore X237.here hx rfl (hb hby at_256) rfl rfl (l' := #[.val (.int ish), .val (.int ind), .val (.int iln), .val (.int ie0), .val (.int ie1), .val (.int ie2), .val (.int vp3), .val (.int vp4), .val (.int (0 : Int32)), .val (.int vn), .val (.int (0 : Int32)), .val (.int (1 : Int32)), .val (.int (2 : Int32)), .val (.ref b73), .val (.ref b80), .val (.ref b85), .val (.ref b93), .val (.ref b101), .val (.ref b230), .unset, .unset, .unset, .unset, .unset, .unset, .unset]) rfl k) ?_
            show Go _ _ _ _ _ _ _ T237 (mkF m 258 #[.val (.int ish), .val (.int ind), .val (.int iln), .val (.int ie0), .val (.int ie1), .val (.int ie2), .val (.int vp3), .val (.int vp4), .val (.int (0 : Int32)), .val (.int vn), .val (.int (0 : Int32)), .val (.int (1 : Int32)), .val (.int (2 : Int32)), .val (.ref b73), .val (.ref b80), .val (.ref b85), .val (.ref b93), .val (.ref b101), .val (.ref b230), .unset, .unset, .unset, .unset, .unset, .unset, .unset] [])
            refine Go.step (fun _ k => XS.goto X237.here hx rfl (pc0 := 258) (pc' := 348) rfl (hb hby at_258) (by decide) (by decide) k) ?_
            show Go _ _ _ _ _ _ _ T237 (mkF m 348 #[.val (.int ish), .val (.int ind), .val (.int iln), .val (.int ie0), .val (.int ie1), .val (.int ie2), .val (.int vp3), .val (.int vp4), .val (.int (0 : Int32)), .val (.int vn), .val (.int (0 : Int32)), .val (.int (1 : Int32)), .val (.int (2 : Int32)), .val (.ref b73), .val (.ref b80), .val (.ref b85), .val (.ref b93), .val (.ref b101), .val (.ref b230), .unset, .unset, .unset, .unset, .unset, .unset, .unset] [])
            have f238 : Exa Z h237 b101 "com/example/wayfront/wayfront/paths/ShortestPathTree" := (((E1_105.ext E230).wr W236).wr W237)
            have f239 : Fld Z h237 b101 "com/example/wayfront/wayfront/paths/ShortestPathTree" "predecessor" "[I" (.ref b73) := (((Fp_105.ext E230).other W236 (Or.inl ne_b101_b230)).other W237 (Or.inl ne_b101_b230))
            have f240 : Fld Z h237 b101 "com/example/wayfront/wayfront/paths/ShortestPathTree" "tail" "[I" (.ref b80) := (((Ft_105.ext E230).other W236 (Or.inl ne_b101_b230)).other W237 (Or.inl ne_b101_b230))
            have f241 : Arv Z h237 b73 k73 .int (5 : Int32) [(.int (-1 : Int32)), (.int (-1 : Int32)), (.int (0 : Int32)), (.int (1 : Int32)), (.int (2 : Int32))] (.int (0 : Int32)) := (((f231.ext E230).other W236 ne_b73_b230).other W237 ne_b73_b230)
            have f242 : Arv Z h237 b80 k80 .int (3 : Int32) [(.int (1 : Int32)), (.int vp3), (.int vp4)] (.int (0 : Int32)) := (((f232.ext E230).other W236 ne_b80_b230).other W237 ne_b80_b230)
            exact J T237 h237 _ b230 k230 (2 : Int32) ([(0 : Int32), (1 : Int32)] : List Int32) ([1, 0] : List Int32) (X237.more (by decide) (by decide)) e237 N237 Z237 f238 f239 f240 f241 f242 V237 rfl (by decide) (by decide) rfl (by have e_vn : vn = 3 := hc221_216; have e_p3 : vp3 = 2 := (own_ar21 vp3 b_vp3 hc227_217); rw [e_vn, e_p3]; exact ⟨(show 0 ≤ (3 : Int32).toInt ∧ (3 : Int32).toInt < 5 from by decide), rfl, (show 0 ≤ (1 : Int32).toInt ∧ (1 : Int32).toInt < 3 from by decide), ⟨(show 0 ≤ (2 : Int32).toInt ∧ (2 : Int32).toInt < 5 from by decide), rfl, (show 0 ≤ (0 : Int32).toInt ∧ (0 : Int32).toInt < 3 from by decide), ⟨(show 0 ≤ (1 : Int32).toInt ∧ (1 : Int32).toInt < 5 from by decide), (show (-1 : Int32) < 0 from by decide)⟩⟩⟩)
        · refine Go.step (fun _ k => XS.icmpYes X105.here hx rfl (pc0 := 221) (pc' := 261) rfl (hb hby at_221) rfl (feq hc221_216).2 (by decide) (by decide) k) ?_
          show Go _ _ _ _ _ _ _ T105 (mkF m 261 #[.val (.int ish), .val (.int ind), .val (.int iln), .val (.int ie0), .val (.int ie1), .val (.int ie2), .val (.int vp3), .val (.int vp4), .val (.int (0 : Int32)), .val (.int vn), .val (.int (0 : Int32)), .val (.int (1 : Int32)), .val (.int (2 : Int32)), .val (.ref b73), .val (.ref b80), .val (.ref b85), .val (.ref b93), .val (.ref b101), .unset, .unset, .unset, .unset, .unset, .unset, .unset, .unset] [])
          refine Go.step (fun _ k => XS.iload X105.here hx rfl (hb hby at_261) rfl k) ?_
          refine Go.step (fun _ k => XS.iconst X105.here hx rfl (hb hby at_263) k) ?_
          by_cases hc264_243 : vp4 = (1 : Int32)
          · refine Go.step (fun _ k => XS.icmpNo X105.here hx rfl (hb hby at_264) rfl (teq hc264_243).2 k) ?_
            show Go _ _ _ _ _ _ _ T105 (mkF m 267 #[.val (.int ish), .val (.int ind), .val (.int iln), .val (.int ie0), .val (.int ie1), .val (.int ie2), .val (.int vp3), .val (.int vp4), .val (.int (0 : Int32)), .val (.int vn), .val (.int (0 : Int32)), .val (.int (1 : Int32)), .val (.int (2 : Int32)), .val (.ref b73), .val (.ref b80), .val (.ref b85), .val (.ref b93), .val (.ref b101), .unset, .unset, .unset, .unset, .unset, .unset, .unset, .unset] [])
            refine Go.step (fun _ k => XS.iconst X105.here hx rfl (hb hby at_267) k) ?_
            have f245 : Arv Z h105 b73 k73 .int (5 : Int32) [(.int (-1 : Int32)), (.int (-1 : Int32)), (.int (0 : Int32)), (.int (1 : Int32)), (.int (2 : Int32))] (.int (0 : Int32)) := ((f102.ext E101).keep Kq105 (ninS ne_b73_b101 nin0))
            have f246 : Arv Z h105 b80 k80 .int (3 : Int32) [(.int (1 : Int32)), (.int vp3), (.int vp4)] (.int (0 : Int32)) := ((f103.ext E101).keep Kq105 (ninS ne_b80_b101 nin0))
            have f247 : Arv Z h105 b85 k85 .double (5 : Int32) [(.double (0 : UInt64)), (.double (0 : UInt64)), (.double (4607182418800017408 : UInt64)), (.double (4611686018427387904 : UInt64)), (.double (4613937818241073152 : UInt64))] (.double (0 : UInt64)) := ((f104.ext E101).keep Kq105 (ninS ne_b85_b101 nin0))
            have f248 : Arv Z h105 b93 k93 .int (4 : Int32) [(.int (1 : Int32)), (.int (2 : Int32)), (.int (3 : Int32)), (.int (4 : Int32))] (.int (0 : Int32)) := ((V100.ext E101).keep Kq105 (ninS ne_b93_b101 nin0))
            obtain ⟨T244, h244, k244, X244, e244, E244, A244, st244⟩ := newP X105 hx hZ (hw _ (List.mem_of_getElem? (i := 5) rfl)) e105 (g := (mkF m 268 #[.val (.int ish), .val (.int ind), .val (.int iln), .val (.int ie0), .val (.int ie1), .val (.int ie2), .val (.int vp3), .val (.int vp4), .val (.int (0 : Int32)), .val (.int vn), .val (.int (0 : Int32)), .val (.int (1 : Int32)), .val (.int (2 : Int32)), .val (.ref b73), .val (.ref b80), .val (.ref b85), .val (.ref b93), .val (.ref b101), .unset, .unset, .unset, .unset, .unset, .unset, .unset, .unset] [(.int (1 : Int32))])) rfl (hb hby at_268) rfl (by decide) (cap := 1) (by decide) (by decide) (by decide) (by decide)
            obtain ⟨b244, g244⟩ : ∃ z, z = h105.size := ⟨_, rfl⟩
            rw [← g244] at A244 st244
            refine Go.step st244 ?_
            have g_b244 : n0 ≤ b244 := Nat.le_trans Z105 (Nat.le_of_eq g244.symm)
            have ne_b101_b244 : b101 ≠ b244 := Nat.ne_of_lt (Nat.lt_of_lt_of_le E1_105.lt (Nat.le_of_eq g244.symm))
            have ne_b73_b244 : b73 ≠ b244 := Nat.ne_of_lt (Nat.lt_of_lt_of_le f245.lt (Nat.le_of_eq g244.symm))
            have ne_b80_b244 : b80 ≠ b244 := Nat.ne_of_lt (Nat.lt_of_lt_of_le f246.lt (Nat.le_of_eq g244.symm))
            have ne_b85_b244 : b85 ≠ b244 := Nat.ne_of_lt (Nat.lt_of_lt_of_le f247.lt (Nat.le_of_eq g244.symm))
            have ne_b93_b244 : b93 ≠ b244 := Nat.ne_of_lt (Nat.lt_of_lt_of_le f248.lt (Nat.le_of_eq g244.symm))
            have Z244 : n0 ≤ h244.size := Nat.le_trans Z105 E244.1
            have V244 : Arv Z h244 b244 k244 .int (1 : Int32) [] (.int (0 : Int32)) := Arv.new A244 (by decide)
            have V249 : Arv Z h244 b244 k244 .int (1 : Int32) [(.int (0 : Int32))] (.int (0 : Int32)) := (V244).pad (pad_rep [] (.int (0 : Int32)) 1)
            show Go _ _ _ _ _ _ _ T244 (mkF m 270 #[.val (.int ish), .val (.int ind), .val (.int iln), .val (.int ie0), .val (.int ie1), .val (.int ie2), .val (.int vp3), .val (.int vp4), .val (.int (0 : Int32)), .val (.int vn), .val (.int (0 : Int32)), .val (.int (1 : Int32)), .val (.int (2 : Int32)), .val (.ref b73), .val (.ref b80), .val (.ref b85), .val (.ref b93), .val (.ref b101), .unset, .unset, .unset, .unset, .unset, .unset, .unset, .unset] [(.ref b244)])
            refine Go.step (fun _ k => XS.dup X244.here hx rfl (hb hby at_270) rfl rfl k) ?_
            refine Go.step (fun _ k => XS.iconst X244.here hx rfl (hb hby at_271) k) ?_
            refine Go.step (fun _ k => XS.iload X244.here hx rfl (hb hby at_272) rfl k) ?_
            obtain ⟨cl250, Ar250, q250, S250, M250, H250, G250⟩ := id (V249)
            have hin250 : ¬ ((0 : Int32) < 0 ∨ cl250.slots.size ≤ ((0 : Int32)).toNatClampNeg) := inb_of S250 ⟨by decide, by decide⟩
            obtain ⟨T250, h250, X250, e250, W250, st250⟩ := stI X244 hx hZ e244 Ar250 (j := (0 : Int32)) hin250 (g := (mkF m 274 #[.val (.int ish), .val (.int ind), .val (.int iln), .val (.int ie0), .val (.int ie1), .val (.int ie2), .val (.int vp3), .val (.int vp4), .val (.int (0 : Int32)), .val (.int vn), .val (.int (0 : Int32)), .val (.int (1 : Int32)), .val (.int (2 : Int32)), .val (.ref b73), .val (.ref b80), .val (.ref b85), .val (.ref b93), .val (.ref b101), .unset, .unset, .unset, .unset, .unset, .unset, .unset, .unset] [(.int (2 : Int32)), (.int (0 : Int32)), (.ref b244), (.ref b244)])) rfl rfl (hb hby at_274)
            refine Go.step st250 ?_
            have V250 : Arv Z h250 b244 k244 .int (1 : Int32) [(.int (2 : Int32))] (.int (0 : Int32)) := Arv.set Ar250 q250 S250 M250 H250 G250 rfl W250 0 rfl (Nat.le_of_ble_eq_true rfl)
            have N250 := Fr.snoc X250 N105 g_b244
            have Z250 : n0 ≤ h250.size := Nat.le_trans Z244 (Keep.of_wr W250).1
            show Go _ _ _ _ _ _ _ T250 (mkF m 275 #[.val (.int ish), .val (.int ind), .val (.int iln), .val (.int ie0), .val (.int ie1), .val (.int ie2), .val (.int vp3), .val (.int vp4), .val (.int (0 : Int32)), .val (.int vn), .val (.int (0 : Int32)), .val (.int (1 : Int32)), .val (.int (2 : Int32)), .val (.ref b73), .val (.ref b80), .val (.ref b85), .val (.ref b93), .val (.ref b101), .unset, .unset, .unset, .unset, .unset, .unset, .unset, .unset] [(.ref b244)])
            refine Go.step (fun _ k => XS.astore X250.here hx rfl (hb hby at_275) rfl rfl (l' := #[.val (.int ish), .val (.int ind), .val (.int iln), .val (.int ie0), .val (.int ie1), .val (.int ie2), .val (.int vp3), .val (.int vp4), .val (.int (0 : Int32)), .val (.int vn), .val (.int (0 : Int32)), .val (.int (1 : Int32)), .val (.int (2 : Int32)), .val (.ref b73), .val (.ref b80), .val (.ref b85), .val (.ref b93), .val (.ref b101), .val (.ref b244), .unset, .unset, .unset, .unset, .unset, .unset, .unset]) rfl k) ?_
            show Go _ _ _ _ _ _ _ T250 (mkF m 277 #[.val (.int ish), .val (.int ind), .val (.int iln), .val (.int ie0), .val (.int ie1), .val (.int ie2), .val (.int vp3), .val (.int vp4), .val (.int (0 : Int32)), .val (.int vn), .val (.int (0 : Int32)), .val (.int (1 : Int32)), .val (.int (2 : Int32)), .val (.ref b73), .val (.ref b80), .val (.ref b85), .val (.ref b93), .val (.ref b101), .val (.ref b244), .unset, .unset, .unset, .unset, .unset, .unset, .unset] [])
            refine Go.step (fun _ k => XS.goto X250.here hx rfl (pc0 := 277) (pc' := 348) rfl (hb hby at_277) (by decide) (by decide) k) ?_
            show Go _ _ _ _ _ _ _ T250 (mkF m 348 #[.val (.int ish), .val (.int ind), .val (.int iln), .val (.int ie0), .val (.int ie1), .val (.int ie2), .val (.int vp3), .val (.int vp4), .val (.int (0 : Int32)), .val (.int vn), .val (.int (0 : Int32)), .val (.int (1 : Int32)), .val (.int (2 : Int32)), .val (.ref b73), .val (.ref b80), .val (.ref b85), .val (.ref b93), .val (.ref b101), .val (.ref b244), .unset, .unset, .unset, .unset, .unset, .unset, .unset] [])
            have f251 : Exa Z h250 b101 "com/example/wayfront/wayfront/paths/ShortestPathTree" := ((E1_105.ext E244).wr W250)
            have f252 : Fld Z h250 b101 "com/example/wayfront/wayfront/paths/ShortestPathTree" "predecessor" "[I" (.ref b73) := ((Fp_105.ext E244).other W250 (Or.inl ne_b101_b244))
            have f253 : Fld Z h250 b101 "com/example/wayfront/wayfront/paths/ShortestPathTree" "tail" "[I" (.ref b80) := ((Ft_105.ext E244).other W250 (Or.inl ne_b101_b244))
            have f254 : Arv Z h250 b73 k73 .int (5 : Int32) [(.int (-1 : Int32)), (.int (-1 : Int32)), (.int (0 : Int32)), (.int (1 : Int32)), (.int (2 : Int32))] (.int (0 : Int32)) := ((f245.ext E244).other W250 ne_b73_b244)
            have f255 : Arv Z h250 b80 k80 .int (3 : Int32) [(.int (1 : Int32)), (.int vp3), (.int vp4)] (.int (0 : Int32)) := ((f246.ext E244).other W250 ne_b80_b244)
            exact J T250 h250 _ b244 k244 (1 : Int32) ([(2 : Int32)] : List Int32) ([2] : List Int32) (X250.more (by decide) (by decide)) e250 N250 Z250 f251 f252 f253 f254 f255 V250 rfl (by decide) (by decide) rfl (by have e_vn : vn = 4 := (own_ar22 vn b_vn hc188_191 hc202_203 hc221_216); have e_p4 : vp4 = 1 := hc264_243; rw [e_vn, e_p4]; exact ⟨(show 0 ≤ (4 : Int32).toInt ∧ (4 : Int32).toInt < 5 from by decide), rfl, (show 0 ≤ (2 : Int32).toInt ∧ (2 : Int32).toInt < 3 from by decide), ⟨(show 0 ≤ (1 : Int32).toInt ∧ (1 : Int32).toInt < 5 from by decide), (show (-1 : Int32) < 0 from by decide)⟩⟩)
          · refine Go.step (fun _ k => XS.icmpYes X105.here hx rfl (pc0 := 264) (pc' := 280) rfl (hb hby at_264) rfl (feq hc264_243).2 (by decide) (by decide) k) ?_
            show Go _ _ _ _ _ _ _ T105 (mkF m 280 #[.val (.int ish), .val (.int ind), .val (.int iln), .val (.int ie0), .val (.int ie1), .val (.int ie2), .val (.int vp3), .val (.int vp4), .val (.int (0 : Int32)), .val (.int vn), .val (.int (0 : Int32)), .val (.int (1 : Int32)), .val (.int (2 : Int32)), .val (.ref b73), .val (.ref b80), .val (.ref b85), .val (.ref b93), .val (.ref b101), .unset, .unset, .unset, .unset, .unset, .unset, .unset, .unset] [])
            refine Go.step (fun _ k => XS.iload X105.here hx rfl (hb hby at_280) rfl k) ?_
            refine Go.step (fun _ k => XS.iconst X105.here hx rfl (hb hby at_282) k) ?_
            by_cases hc283_256 : vp4 = (2 : Int32)
            · refine Go.step (fun _ k => XS.icmpNo X105.here hx rfl (hb hby at_283) rfl (teq hc283_256).2 k) ?_
              show Go _ _ _ _ _ _ _ T105 (mkF m 286 #[.val (.int ish), .val (.int ind), .val (.int iln), .val (.int ie0), .val (.int ie1), .val (.int ie2), .val (.int vp3), .val (.int vp4), .val (.int (0 : Int32)), .val (.int vn), .val (.int (0 : Int32)), .val (.int (1 : Int32)), .val (.int (2 : Int32)), .val (.ref b73), .val (.ref b80), .val (.ref b85), .val (.ref b93), .val (.ref b101), .unset, .unset, .unset, .unset, .unset, .unset, .unset, .unset] [])
              refine Go.step (fun _ k => XS.iconst X105.here hx rfl (hb hby at_286) k) ?_
              have f258 : Arv Z h105 b73 k73 .int (5 : Int32) [(.int (-1 : Int32)), (.int (-1 : Int32)), (.int (0 : Int32)), (.int (1 : Int32)), (.int (2 : Int32))] (.int (0 : Int32)) := ((f102.ext E101).keep Kq105 (ninS ne_b73_b101 nin0))
              have f259 : Arv Z h105 b80 k80 .int (3 : Int32) [(.int (1 : Int32)), (.int vp3), (.int vp4)] (.int (0 : Int32)) := ((f103.ext E101).keep Kq105 (ninS ne_b80_b101 nin0))
              have f260 : Arv Z h105 b85 k85 .double (5 : Int32) [(.double (0 : UInt64)), (.double (0 : UInt64)), (.double (4607182418800017408 : UInt64)), (.double (4611686018427387904 : UInt64)), (.double (4613937818241073152 : UInt64))] (.double (0 : UInt64)) := ((f104.ext E101).keep Kq105 (ninS ne_b85_b101 nin0))
              have f261 : Arv Z h105 b93 k93 .int (4 : Int32) [(.int (1 : Int32)), (.int (2 : Int32)), (.int (3 : Int32)), (.int (4 : Int32))] (.int (0 : Int32)) := ((V100.ext E101).keep Kq105 (ninS ne_b93_b101 nin0))
              obtain ⟨T257, h257, k257, X257, e257, E257, A257, st257⟩ := newP X105 hx hZ (hw _ (List.mem_of_getElem? (i := 5) rfl)) e105 (g := (mkF m 287 #[.val (.int ish), .val (.int ind), .val (.int iln), .val (.int ie0), .val (.int ie1), .val (.int ie2), .val (.int vp3), .val (.int vp4), .val (.int (0 : Int32)), .val (.int vn), .val (.int (0 : Int32)), .val (.int (1 : Int32)), .val (.int (2 : Int32)), .val (.ref b73), .val (.ref b80), .val (.ref b85), .val (.ref b93), .val (.ref b101), .unset, .unset, .unset, .unset, .unset, .unset, .unset, .unset] [(.int (2 : Int32))])) rfl (hb hby at_287) rfl (by decide) (cap := 2) (by decide) (by decide) (by decide) (by decide)
              obtain ⟨b257, g257⟩ : ∃ z, z = h105.size := ⟨_, rfl⟩
              rw [← g257] at A257 st257
              refine Go.step st257 ?_
              have g_b257 : n0 ≤ b257 := Nat.le_trans Z105 (Nat.le_of_eq g257.symm)
              have ne_b101_b257 : b101 ≠ b257 := Nat.ne_of_lt (Nat.lt_of_lt_of_le E1_105.lt (Nat.le_of_eq g257.symm))
              have ne_b73_b257 : b73 ≠ b257 := Nat.ne_of_lt (Nat.lt_of_lt_of_le f258.lt (Nat.le_of_eq g257.symm))
              have ne_b80_b257 : b80 ≠ b257 := Nat.ne_of_lt (Nat.lt_of_lt_of_le f259.lt (Nat.le_of_eq g257.symm))
              have ne_b85_b257 : b85 ≠ b257 := Nat.ne_of_lt (Nat.lt_of_lt_of_le f260.lt (Nat.le_of_eq g257.symm))
              have ne_b93_b257 : b93 ≠ b257 := Nat.ne_of_lt (Nat.lt_of_lt_of_le f261.lt (Nat.le_of_eq g257.symm))
              have Z257 : n0 ≤ h257.size := Nat.le_trans Z105 E257.1
              have V257 : Arv Z h257 b257 k257 .int (2 : Int32) [] (.int (0 : Int32)) := Arv.new A257 (by decide)
              have V262 : Arv Z h257 b257 k257 .int (2 : Int32) [(.int (0 : Int32)), (.int (0 : Int32))] (.int (0 : Int32)) := (V257).pad (pad_rep [] (.int (0 : Int32)) 2)
              show Go _ _ _ _ _ _ _ T257 (mkF m 289 #[.val (.int ish), .val (.int ind), .val (.int iln), .val (.int ie0), .val (.int ie1), .val (.int ie2), .val (.int vp3), .val (.int vp4), .val (.int (0 : Int32)), .val (.int vn), .val (.int (0 : Int32)), .val (.int (1 : Int32)), .val (.int (2 : Int32)), .val (.ref b73), .val (.ref b80), .val (.ref b85), .val (.ref b93), .val (.ref b101), .unset, .unset, .unset, .unset, .unset, .unset, .unset, .unset] [(.ref b257)])
              refine Go.step (fun _ k => XS.dup X257.here hx rfl (hb hby at_289) rfl rfl k) ?_
              refine Go.step (fun _ k => XS.iconst X257.here hx rfl (hb hby at_290) k) ?_
              refine Go.step (fun _ k => XS.iload X257.here hx rfl (hb hby at_291) rfl k) ?_
              obtain ⟨cl263, Ar263, q263, S263, M263, H263, G263⟩ := id (V262)
              have hin263 : ¬ ((0 : Int32) < 0 ∨ cl263.slots.size ≤ ((0 : Int32)).toNatClampNeg) := inb_of S263 ⟨by decide, by decide⟩
              obtain ⟨T263, h263, X263, e263, W263, st263⟩ := stI X257 hx hZ e257 Ar263 (j := (0 : Int32)) hin263 (g := (mkF m 293 #[.val (.int ish), .val (.int ind), .val (.int iln), .val (.int ie0), .val (.int ie1), .val (.int ie2), .val (.int vp3), .val (.int vp4), .val (.int (0 : Int32)), .val (.int vn), .val (.int (0 : Int32)), .val (.int (1 : Int32)), .val (.int (2 : Int32)), .val (.ref b73), .val (.ref b80), .val (.ref b85), .val (.ref b93), .val (.ref b101), .unset, .unset, .unset, .unset, .unset, .unset, .unset, .unset] [(.int (0 : Int32)), (.int (0 : Int32)), (.ref b257), (.ref b257)])) rfl rfl (hb hby at_293)
              refine Go.step st263 ?_
              have V263 : Arv Z h263 b257 k257 .int (2 : Int32) [(.int (0 : Int32)), (.int (0 : Int32))] (.int (0 : Int32)) := Arv.set Ar263 q263 S263 M263 H263 G263 rfl W263 0 rfl (Nat.le_of_ble_eq_true rfl)
              have N263 := Fr.snoc X263 N105 g_b257
              have Z263 : n0 ≤ h263.size := Nat.le_trans Z257 (Keep.of_wr W263).1
              show Go _ _ _ _ _ _ _ T263 (mkF m 294 #[.val (.int ish), .val (.int ind), .val (.int iln), .val (.int ie0), .val (.int ie1), .val (.int ie2), .val (.int vp3), .val (.int vp4), .val (.int (0 : Int32)), .val (.int vn), .val (.int (0 : Int32)), .val (.int (1 : Int32)), .val (.int (2 : Int32)), .val (.ref b73), .val (.ref b80), .val (.ref b85), .val (.ref b93), .val (.ref b101), .unset, .unset, .unset, .unset, .unset, .unset, .unset, .unset] [(.ref b257)])
              refine Go.step (fun _ k => XS.dup X263.here hx rfl (hb hby at_294) rfl rfl k) ?_
              refine Go.step (fun _ k => XS.iconst X263.here hx rfl (hb hby at_295) k) ?_
              refine Go.step (fun _ k => XS.iload X263.here hx rfl (hb hby at_296) rfl k) ?_
              obtain ⟨cl264, Ar264, q264, S264, M264, H264, G264⟩ := id (V263)
              have hin264 : ¬ ((1 : Int32) < 0 ∨ cl264.slots.size ≤ ((1 : Int32)).toNatClampNeg) := inb_of S264 ⟨by decide, by decide⟩
              obtain ⟨T264, h264, X264, e264, W264, st264⟩ := stI X263 hx hZ e263 Ar264 (j := (1 : Int32)) hin264 (g := (mkF m 298 #[.val (.int ish), .val (.int ind), .val (.int iln), .val (.int ie0), .val (.int ie1), .val (.int ie2), .val (.int vp3), .val (.int vp4), .val (.int (0 : Int32)), .val (.int vn), .val (.int (0 : Int32)), .val (.int (1 : Int32)), .val (.int (2 : Int32)), .val (.ref b73), .val (.ref b80), .val (.ref b85), .val (.ref b93), .val (.ref b101), .unset, .unset, .unset, .unset, .unset, .unset, .unset, .unset] [(.int (2 : Int32)), (.int (1 : Int32)), (.ref b257), (.ref b257)])) rfl rfl (hb hby at_298)
              refine Go.step st264 ?_
              have V264 : Arv Z h264 b257 k257 .int (2 : Int32) [(.int (0 : Int32)), (.int (2 : Int32))] (.int (0 : Int32)) := Arv.set Ar264 q264 S264 M264 H264 G264 rfl W264 1 rfl (Nat.le_of_ble_eq_true rfl)
              have N264 := Fr.snoc X264 N263 g_b257
              have Z264 : n0 ≤ h264.size := Nat.le_trans Z263 (Keep.of_wr W264).1
              show Go _ _ _ _ _ _ _ T264 (mkF m 299 #[.val (.int ish), .val (.int ind), .val (.int iln), .val (.int ie0), .val (.int ie1), .val (.int ie2), .val (.int vp3), .val (.int vp4), .val (.int (0 : Int32)), .val (.int vn), .val (.int (0 : Int32)), .val (.int (1 : Int32)), .val (.int (2 : Int32)), .val (.ref b73), .val (.ref b80), .val (.ref b85), .val (.ref b93), .val (.ref b101), .unset, .unset, .unset, .unset, .unset, .unset, .unset, .unset] [(.ref b257)])
              refine Go.step (fun _ k => XS.astore X264.here hx rfl (hb hby at_299) rfl rfl (l' := #[.val (.int ish), .val (.int ind), .val (.int iln), .val (.int ie0), .val (.int ie1), .val (.int ie2), .val (.int vp3), .val (.int vp4), .val (.int (0 : Int32)), .val (.int vn), .val (.int (0 : Int32)), .val (.int (1 : Int32)), .val (.int (2 : Int32)), .val (.ref b73), .val (.ref b80), .val (.ref b85), .val (.ref b93), .val (.ref b101), .val (.ref b257), .unset, .unset, .unset, .unset, .unset, .unset, .unset]) rfl k) ?_
              show Go _ _ _ _ _ _ _ T264 (mkF m 301 #[.val (.int ish), .val (.int ind), .val (.int iln), .val (.int ie0), .val (.int ie1), .val (.int ie2), .val (.int vp3), .val (.int vp4), .val (.int (0 : Int32)), .val (.int vn), .val (.int (0 : Int32)), .val (.int (1 : Int32)), .val (.int (2 : Int32)), .val (.ref b73), .val (.ref b80), .val (.ref b85), .val (.ref b93), .val (.ref b101), .val (.ref b257), .unset, .unset, .unset, .unset, .unset, .unset, .unset] [])
              refine Go.step (fun _ k => XS.goto X264.here hx rfl (pc0 := 301) (pc' := 348) rfl (hb hby at_301) (by decide) (by decide) k) ?_
              show Go _ _ _ _ _ _ _ T264 (mkF m 348 #[.val (.int ish), .val (.int ind), .val (.int iln), .val (.int ie0), .val (.int ie1), .val (.int ie2), .val (.int vp3), .val (.int vp4), .val (.int (0 : Int32)), .val (.int vn), .val (.int (0 : Int32)), .val (.int (1 : Int32)), .val (.int (2 : Int32)), .val (.ref b73), .val (.ref b80), .val (.ref b85), .val (.ref b93), .val (.ref b101), .val (.ref b257), .unset, .unset, .unset, .unset, .unset, .unset, .unset] [])
              have f265 : Exa Z h264 b101 "com/example/wayfront/wayfront/paths/ShortestPathTree" := (((E1_105.ext E257).wr W263).wr W264)
              have f266 : Fld Z h264 b101 "com/example/wayfront/wayfront/paths/ShortestPathTree" "predecessor" "[I" (.ref b73) := (((Fp_105.ext E257).other W263 (Or.inl ne_b101_b257)).other W264 (Or.inl ne_b101_b257))
              have f267 : Fld Z h264 b101 "com/example/wayfront/wayfront/paths/ShortestPathTree" "tail" "[I" (.ref b80) := (((Ft_105.ext E257).other W263 (Or.inl ne_b101_b257)).other W264 (Or.inl ne_b101_b257))
              have f268 : Arv Z h264 b73 k73 .int (5 : Int32) [(.int (-1 : Int32)), (.int (-1 : Int32)), (.int (0 : Int32)), (.int (1 : Int32)), (.int (2 : Int32))] (.int (0 : Int32)) := (((f258.ext E257).other W263 ne_b73_b257).other W264 ne_b73_b257)
              have f269 : Arv Z h264 b80 k80 .int (3 : Int32) [(.int (1 : Int32)), (.int vp3), (.int vp4)] (.int (0 : Int32)) := (((f259.ext E257).other W263 ne_b80_b257).other W264 ne_b80_b257)
              exact J T264 h264 _ b257 k257 (2 : Int32) ([(0 : Int32), (2 : Int32)] : List Int32) ([2, 0] : List Int32) (X264.more (by decide) (by decide)) e264 N264 Z264 f265 f266 f267 f268 f269 V264 rfl (by decide) (by decide) rfl (by have e_vn : vn = 4 := (own_ar22 vn b_vn hc188_191 hc202_203 hc221_216); have e_p4 : vp4 = 2 := hc283_256; rw [e_vn, e_p4]; exact ⟨(show 0 ≤ (4 : Int32).toInt ∧ (4 : Int32).toInt < 5 from by decide), rfl, (show 0 ≤ (2 : Int32).toInt ∧ (2 : Int32).toInt < 3 from by decide), ⟨(show 0 ≤ (2 : Int32).toInt ∧ (2 : Int32).toInt < 5 from by decide), rfl, (show 0 ≤ (0 : Int32).toInt ∧ (0 : Int32).toInt < 3 from by decide), ⟨(show 0 ≤ (1 : Int32).toInt ∧ (1 : Int32).toInt < 5 from by decide), (show (-1 : Int32) < 0 from by decide)⟩⟩⟩)
            · refine Go.step (fun _ k => XS.icmpYes X105.here hx rfl (pc0 := 283) (pc' := 304) rfl (hb hby at_283) rfl (feq hc283_256).2 (by decide) (by decide) k) ?_
              show Go _ _ _ _ _ _ _ T105 (mkF m 304 #[.val (.int ish), .val (.int ind), .val (.int iln), .val (.int ie0), .val (.int ie1), .val (.int ie2), .val (.int vp3), .val (.int vp4), .val (.int (0 : Int32)), .val (.int vn), .val (.int (0 : Int32)), .val (.int (1 : Int32)), .val (.int (2 : Int32)), .val (.ref b73), .val (.ref b80), .val (.ref b85), .val (.ref b93), .val (.ref b101), .unset, .unset, .unset, .unset, .unset, .unset, .unset, .unset] [])
              refine Go.step (fun _ k => XS.iload X105.here hx rfl (hb hby at_304) rfl k) ?_
              refine Go.step (fun _ k => XS.iconst X105.here hx rfl (hb hby at_306) k) ?_
              by_cases hc307_270 : vp3 = (1 : Int32)
              · refine Go.step (fun _ k => XS.icmpNo X105.here hx rfl (hb hby at_307) rfl (teq hc307_270).2 k) ?_
                show Go _ _ _ _ _ _ _ T105 (mkF m 310 #[.val (.int ish), .val (.int ind), .val (.int iln), .val (.int ie0), .val (.int ie1), .val (.int ie2), .val (.int vp3), .val (.int vp4), .val (.int (0 : Int32)), .val (.int vn), .val (.int (0 : Int32)), .val (.int (1 : Int32)), .val (.int (2 : Int32)), .val (.ref b73), .val (.ref b80), .val (.ref b85), .val (.ref b93), .val (.ref b101), .unset, .unset, .unset, .unset, .unset, .unset, .unset, .unset] [])
                refine Go.step (fun _ k => XS.iconst X105.here hx rfl (hb hby at_310) k) ?_
                have f272 : Arv Z h105 b73 k73 .int (5 : Int32) [(.int (-1 : Int32)), (.int (-1 : Int32)), (.int (0 : Int32)), (.int (1 : Int32)), (.int (2 : Int32))] (.int (0 : Int32)) := ((f102.ext E101).keep Kq105 (ninS ne_b73_b101 nin0))
                have f273 : Arv Z h105 b80 k80 .int (3 : Int32) [(.int (1 : Int32)), (.int vp3), (.int vp4)] (.int (0 : Int32)) := ((f103.ext E101).keep Kq105 (ninS ne_b80_b101 nin0))
                have f274 : Arv Z h105 b85 k85 .double (5 : Int32) [(.double (0 : UInt64)), (.double (0 : UInt64)), (.double (4607182418800017408 : UInt64)), (.double (4611686018427387904 : UInt64)), (.double (4613937818241073152 : UInt64))] (.double (0 : UInt64)) := ((f104.ext E101).keep Kq105 (ninS ne_b85_b101 nin0))
                have f275 : Arv Z h105 b93 k93 .int (4 : Int32) [(.int (1 : Int32)), (.int (2 : Int32)), (.int (3 : Int32)), (.int (4 : Int32))] (.int (0 : Int32)) := ((V100.ext E101).keep Kq105 (ninS ne_b93_b101 nin0))
                obtain ⟨T271, h271, k271, X271, e271, E271, A271, st271⟩ := newP X105 hx hZ (hw _ (List.mem_of_getElem? (i := 5) rfl)) e105 (g := (mkF m 311 #[.val (.int ish), .val (.int ind), .val (.int iln), .val (.int ie0), .val (.int ie1), .val (.int ie2), .val (.int vp3), .val (.int vp4), .val (.int (0 : Int32)), .val (.int vn), .val (.int (0 : Int32)), .val (.int (1 : Int32)), .val (.int (2 : Int32)), .val (.ref b73), .val (.ref b80), .val (.ref b85), .val (.ref b93), .val (.ref b101), .unset, .unset, .unset, .unset, .unset, .unset, .unset, .unset] [(.int (2 : Int32))])) rfl (hb hby at_311) rfl (by decide) (cap := 2) (by decide) (by decide) (by decide) (by decide)
                obtain ⟨b271, g271⟩ : ∃ z, z = h105.size := ⟨_, rfl⟩
                rw [← g271] at A271 st271
                refine Go.step st271 ?_
                have g_b271 : n0 ≤ b271 := Nat.le_trans Z105 (Nat.le_of_eq g271.symm)
                have ne_b101_b271 : b101 ≠ b271 := Nat.ne_of_lt (Nat.lt_of_lt_of_le E1_105.lt (Nat.le_of_eq g271.symm))
                have ne_b73_b271 : b73 ≠ b271 := Nat.ne_of_lt (Nat.lt_of_lt_of_le f272.lt (Nat.le_of_eq g271.symm))
                have ne_b80_b271 : b80 ≠ b271 := Nat.ne_of_lt (Nat.lt_of_lt_of_le f273.lt (Nat.le_of_eq g271.symm))
                have ne_b85_b271 : b85 ≠ b271 := Nat.ne_of_lt (Nat.lt_of_lt_of_le f274.lt (Nat.le_of_eq g271.symm))
                have ne_b93_b271 : b93 ≠ b271 := Nat.ne_of_lt (Nat.lt_of_lt_of_le f275.lt (Nat.le_of_eq g271.symm))
                have Z271 : n0 ≤ h271.size := Nat.le_trans Z105 E271.1
                have V271 : Arv Z h271 b271 k271 .int (2 : Int32) [] (.int (0 : Int32)) := Arv.new A271 (by decide)
                have V276 : Arv Z h271 b271 k271 .int (2 : Int32) [(.int (0 : Int32)), (.int (0 : Int32))] (.int (0 : Int32)) := (V271).pad (pad_rep [] (.int (0 : Int32)) 2)
                show Go _ _ _ _ _ _ _ T271 (mkF m 313 #[.val (.int ish), .val (.int ind), .val (.int iln), .val (.int ie0), .val (.int ie1), .val (.int ie2), .val (.int vp3), .val (.int vp4), .val (.int (0 : Int32)), .val (.int vn), .val (.int (0 : Int32)), .val (.int (1 : Int32)), .val (.int (2 : Int32)), .val (.ref b73), .val (.ref b80), .val (.ref b85), .val (.ref b93), .val (.ref b101), .unset, .unset, .unset, .unset, .unset, .unset, .unset, .unset] [(.ref b271)])
                refine Go.step (fun _ k => XS.dup X271.here hx rfl (hb hby at_313) rfl rfl k) ?_
                refine Go.step (fun _ k => XS.iconst X271.here hx rfl (hb hby at_314) k) ?_
                refine Go.step (fun _ k => XS.iload X271.here hx rfl (hb hby at_315) rfl k) ?_
                obtain ⟨cl277, Ar277, q277, S277, M277, H277, G277⟩ := id (V276)
                have hin277 : ¬ ((0 : Int32) < 0 ∨ cl277.slots.size ≤ ((0 : Int32)).toNatClampNeg) := inb_of S277 ⟨by decide, by decide⟩
                obtain ⟨T277, h277, X277, e277, W277, st277⟩ := stI X271 hx hZ e271 Ar277 (j := (0 : Int32)) hin277 (g := (mkF m 317 #[.val (.int ish), .val (.int ind), .val (.int iln), .val (.int ie0), .val (.int ie1), .val (.int ie2), .val (.int vp3), .val (.int vp4), .val (.int (0 : Int32)), .val (.int vn), .val (.int (0 : Int32)), .val (.int (1 : Int32)), .val (.int (2 : Int32)), .val (.ref b73), .val (.ref b80), .val (.ref b85), .val (.ref b93), .val (.ref b101), .unset, .unset, .unset, .unset, .unset, .unset, .unset, .unset] [(.int (1 : Int32)), (.int (0 : Int32)), (.ref b271), (.ref b271)])) rfl rfl (hb hby at_317)
                refine Go.step st277 ?_
                have V277 : Arv Z h277 b271 k271 .int (2 : Int32) [(.int (1 : Int32)), (.int (0 : Int32))] (.int (0 : Int32)) := Arv.set Ar277 q277 S277 M277 H277 G277 rfl W277 0 rfl (Nat.le_of_ble_eq_true rfl)
                have N277 := Fr.snoc X277 N105 g_b271
                have Z277 : n0 ≤ h277.size := Nat.le_trans Z271 (Keep.of_wr W277).1
                show Go _ _ _ _ _ _ _ T277 (mkF m 318 #[.val (.int ish), .val (.int ind), .val (.int iln), .val (.int ie0), .val (.int ie1), .val (.int ie2), .val (.int vp3), .val (.int vp4), .val (.int (0 : Int32)), .val (.int vn), .val (.int (0 : Int32)), .val (.int (1 : Int32)), .val (.int (2 : Int32)), .val (.ref b73), .val (.ref b80), .val (.ref b85), .val (.ref b93), .val (.ref b101), .unset, .unset, .unset, .unset, .unset, .unset, .unset, .unset] [(.ref b271)])
                refine Go.step (fun _ k => XS.dup X277.here hx rfl (hb hby at_318) rfl rfl k) ?_
                refine Go.step (fun _ k => XS.iconst X277.here hx rfl (hb hby at_319) k) ?_
                refine Go.step (fun _ k => XS.iload X277.here hx rfl (hb hby at_320) rfl k) ?_
                obtain ⟨cl278, Ar278, q278, S278, M278, H278, G278⟩ := id (V277)
                have hin278 : ¬ ((1 : Int32) < 0 ∨ cl278.slots.size ≤ ((1 : Int32)).toNatClampNeg) := inb_of S278 ⟨by decide, by decide⟩
                obtain ⟨T278, h278, X278, e278, W278, st278⟩ := stI X277 hx hZ e277 Ar278 (j := (1 : Int32)) hin278 (g := (mkF m 322 #[.val (.int ish), .val (.int ind), .val (.int iln), .val (.int ie0), .val (.int ie1), .val (.int ie2), .val (.int vp3), .val (.int vp4), .val (.int (0 : Int32)), .val (.int vn), .val (.int (0 : Int32)), .val (.int (1 : Int32)), .val (.int (2 : Int32)), .val (.ref b73), .val (.ref b80), .val (.ref b85), .val (.ref b93), .val (.ref b101), .unset, .unset, .unset, .unset, .unset, .unset, .unset, .unset] [(.int (2 : Int32)), (.int (1 : Int32)), (.ref b271), (.ref b271)])) rfl rfl (hb hby at_322)
                refine Go.step st278 ?_
                have V278 : Arv Z h278 b271 k271 .int (2 : Int32) [(.int (1 : Int32)), (.int (2 : Int32))] (.int (0 : Int32)) := Arv.set Ar278 q278 S278 M278 H278 G278 rfl W278 1 rfl (Nat.le_of_ble_eq_true rfl)
                have N278 := Fr.snoc X278 N277 g_b271
                have Z278 : n0 ≤ h278.size := Nat.le_trans Z277 (Keep.of_wr W278).1
                show Go _ _ _ _ _ _ _ T278 (mkF m 323 #[.val (.int ish), .val (.int ind), .val (.int iln), .val (.int ie0), .val (.int ie1), .val (.int ie2), .val (.int vp3), .val (.int vp4), .val (.int (0 : Int32)), .val (.int vn), .val (.int (0 : Int32)), .val (.int (1 : Int32)), .val (.int (2 : Int32)), .val (.ref b73), .val (.ref b80), .val (.ref b85), .val (.ref b93), .val (.ref b101), .unset, .unset, .unset, .unset, .unset, .unset, .unset, .unset] [(.ref b271)])
                refine Go.step (fun _ k => XS.astore X278.here hx rfl (hb hby at_323) rfl rfl (l' := #[.val (.int ish), .val (.int ind), .val (.int iln), .val (.int ie0), .val (.int ie1), .val (.int ie2), .val (.int vp3), .val (.int vp4), .val (.int (0 : Int32)), .val (.int vn), .val (.int (0 : Int32)), .val (.int (1 : Int32)), .val (.int (2 : Int32)), .val (.ref b73), .val (.ref b80), .val (.ref b85), .val (.ref b93), .val (.ref b101), .val (.ref b271), .unset, .unset, .unset, .unset, .unset, .unset, .unset]) rfl k) ?_
                show Go _ _ _ _ _ _ _ T278 (mkF m 325 #[.val (.int ish), .val (.int ind), .val (.int iln), .val (.int ie0), .val (.int ie1), .val (.int ie2), .val (.int vp3), .val (.int vp4), .val (.int (0 : Int32)), .val (.int vn), .val (.int (0 : Int32)), .val (.int (1 : Int32)), .val (.int (2 : Int32)), .val (.ref b73), .val (.ref b80), .val (.ref b85), .val (.ref b93), .val (.ref b101), .val (.ref b271), .unset, .unset, .unset, .unset, .unset, .unset, .unset] [])
                refine Go.step (fun _ k => XS.goto X278.here hx rfl (pc0 := 325) (pc' := 348) rfl (hb hby at_325) (by decide) (by decide) k) ?_
                show Go _ _ _ _ _ _ _ T278 (mkF m 348 #[.val (.int ish), .val (.int ind), .val (.int iln), .val (.int ie0), .val (.int ie1), .val (.int ie2), .val (.int vp3), .val (.int vp4), .val (.int (0 : Int32)), .val (.int vn), .val (.int (0 : Int32)), .val (.int (1 : Int32)), .val (.int (2 : Int32)), .val (.ref b73), .val (.ref b80), .val (.ref b85), .val (.ref b93), .val (.ref b101), .val (.ref b271), .unset, .unset, .unset, .unset, .unset, .unset, .unset] [])
                have f279 : Exa Z h278 b101 "com/example/wayfront/wayfront/paths/ShortestPathTree" := (((E1_105.ext E271).wr W277).wr W278)
                have f280 : Fld Z h278 b101 "com/example/wayfront/wayfront/paths/ShortestPathTree" "predecessor" "[I" (.ref b73) := (((Fp_105.ext E271).other W277 (Or.inl ne_b101_b271)).other W278 (Or.inl ne_b101_b271))
                have f281 : Fld Z h278 b101 "com/example/wayfront/wayfront/paths/ShortestPathTree" "tail" "[I" (.ref b80) := (((Ft_105.ext E271).other W277 (Or.inl ne_b101_b271)).other W278 (Or.inl ne_b101_b271))
                have f282 : Arv Z h278 b73 k73 .int (5 : Int32) [(.int (-1 : Int32)), (.int (-1 : Int32)), (.int (0 : Int32)), (.int (1 : Int32)), (.int (2 : Int32))] (.int (0 : Int32)) := (((f272.ext E271).other W277 ne_b73_b271).other W278 ne_b73_b271)
                have f283 : Arv Z h278 b80 k80 .int (3 : Int32) [(.int (1 : Int32)), (.int vp3), (.int vp4)] (.int (0 : Int32)) := (((f273.ext E271).other W277 ne_b80_b271).other W278 ne_b80_b271)
                exact J T278 h278 _ b271 k271 (2 : Int32) ([(1 : Int32), (2 : Int32)] : List Int32) ([2, 1] : List Int32) (X278.more (by decide) (by decide)) e278 N278 Z278 f279 f280 f281 f282 f283 V278 rfl (by decide) (by decide) rfl (by have e_vn : vn = 4 := (own_ar22 vn b_vn hc188_191 hc202_203 hc221_216); have e_p4 : vp4 = 3 := (own_ar23 vp4 b_vp4 hc264_243 hc283_256); have e_p3 : vp3 = 1 := hc307_270; rw [e_vn, e_p4, e_p3]; exact ⟨(show 0 ≤ (4 : Int32).toInt ∧ (4 : Int32).toInt < 5 from by decide), rfl, (show 0 ≤ (2 : Int32).toInt ∧ (2 : Int32).toInt < 3 from by decide), ⟨(show 0 ≤ (3 : Int32).toInt ∧ (3 : Int32).toInt < 5 from by decide), rfl, (show 0 ≤ (1 : Int32).toInt ∧ (1 : Int32).toInt < 3 from by decide), ⟨(show 0 ≤ (1 : Int32).toInt ∧ (1 : Int32).toInt < 5 from by decide), (show (-1 : Int32) < 0 from by decide)⟩⟩⟩)
              · refine Go.step (fun _ k => XS.icmpYes X105.here hx rfl (pc0 := 307) (pc' := 328) rfl (hb hby at_307) rfl (feq hc307_270).2 (by decide) (by decide) k) ?_
                show Go _ _ _ _ _ _ _ T105 (mkF m 328 #[.val (.int ish), .val (.int ind), .val (.int iln), .val (.int ie0), .val (.int ie1), .val (.int ie2), .val (.int vp3), .val (.int vp4), .val (.int (0 : Int32)), .val (.int vn), .val (.int (0 : Int32)), .val (.int (1 : Int32)), .val (.int (2 : Int32)), .val (.ref b73), .val (.ref b80), .val (.ref b85), .val (.ref b93), .val (.ref b101), .unset, .unset, .unset, .unset, .unset, .unset, .unset, .unset] [])
                refine Go.step (fun _ k => XS.iconst X105.here hx rfl (hb hby at_328) k) ?_
                have f285 : Arv Z h105 b73 k73 .int (5 : Int32) [(.int (-1 : Int32)), (.int (-1 : Int32)), (.int (0 : Int32)), (.int (1 : Int32)), (.int (2 : Int32))] (.int (0 : Int32)) := ((f102.ext E101).keep Kq105 (ninS ne_b73_b101 nin0))
                have f286 : Arv Z h105 b80 k80 .int (3 : Int32) [(.int (1 : Int32)), (.int vp3), (.int vp4)] (.int (0 : Int32)) := ((f103.ext E101).keep Kq105 (ninS ne_b80_b101 nin0))
                have f287 : Arv Z h105 b85 k85 .double (5 : Int32) [(.double (0 : UInt64)), (.double (0 : UInt64)), (.double (4607182418800017408 : UInt64)), (.double (4611686018427387904 : UInt64)), (.double (4613937818241073152 : UInt64))] (.double (0 : UInt64)) := ((f104.ext E101).keep Kq105 (ninS ne_b85_b101 nin0))
                have f288 : Arv Z h105 b93 k93 .int (4 : Int32) [(.int (1 : Int32)), (.int (2 : Int32)), (.int (3 : Int32)), (.int (4 : Int32))] (.int (0 : Int32)) := ((V100.ext E101).keep Kq105 (ninS ne_b93_b101 nin0))
                obtain ⟨T284, h284, k284, X284, e284, E284, A284, st284⟩ := newP X105 hx hZ (hw _ (List.mem_of_getElem? (i := 5) rfl)) e105 (g := (mkF m 329 #[.val (.int ish), .val (.int ind), .val (.int iln), .val (.int ie0), .val (.int ie1), .val (.int ie2), .val (.int vp3), .val (.int vp4), .val (.int (0 : Int32)), .val (.int vn), .val (.int (0 : Int32)), .val (.int (1 : Int32)), .val (.int (2 : Int32)), .val (.ref b73), .val (.ref b80), .val (.ref b85), .val (.ref b93), .val (.ref b101), .unset, .unset, .unset, .unset, .unset, .unset, .unset, .unset] [(.int (3 : Int32))])) rfl (hb hby at_329) rfl (by decide) (cap := 3) (by decide) (by decide) (by decide) (by decide)
                obtain ⟨b284, g284⟩ : ∃ z, z = h105.size := ⟨_, rfl⟩
                rw [← g284] at A284 st284
                refine Go.step st284 ?_
                have g_b284 : n0 ≤ b284 := Nat.le_trans Z105 (Nat.le_of_eq g284.symm)
                have ne_b101_b284 : b101 ≠ b284 := Nat.ne_of_lt (Nat.lt_of_lt_of_le E1_105.lt (Nat.le_of_eq g284.symm))
                have ne_b73_b284 : b73 ≠ b284 := Nat.ne_of_lt (Nat.lt_of_lt_of_le f285.lt (Nat.le_of_eq g284.symm))
                have ne_b80_b284 : b80 ≠ b284 := Nat.ne_of_lt (Nat.lt_of_lt_of_le f286.lt (Nat.le_of_eq g284.symm))
                have ne_b85_b284 : b85 ≠ b284 := Nat.ne_of_lt (Nat.lt_of_lt_of_le f287.lt (Nat.le_of_eq g284.symm))
                have ne_b93_b284 : b93 ≠ b284 := Nat.ne_of_lt (Nat.lt_of_lt_of_le f288.lt (Nat.le_of_eq g284.symm))
                have Z284 : n0 ≤ h284.size := Nat.le_trans Z105 E284.1
                have V284 : Arv Z h284 b284 k284 .int (3 : Int32) [] (.int (0 : Int32)) := Arv.new A284 (by decide)
                have V289 : Arv Z h284 b284 k284 .int (3 : Int32) [(.int (0 : Int32)), (.int (0 : Int32)), (.int (0 : Int32))] (.int (0 : Int32)) := (V284).pad (pad_rep [] (.int (0 : Int32)) 3)
                show Go _ _ _ _ _ _ _ T284 (mkF m 331 #[.val (.int ish), .val (.int ind), .val (.int iln), .val (.int ie0), .val (.int ie1), .val (.int ie2), .val (.int vp3), .val (.int vp4), .val (.int (0 : Int32)), .val (.int vn), .val (.int (0 : Int32)), .val (.int (1 : Int32)), .val (.int (2 : Int32)), .val (.ref b73), .val (.ref b80), .val (.ref b85), .val (.ref b93), .val (.ref b101), .unset, .unset, .unset, .unset, .unset, .unset, .unset, .unset] [(.ref b284)])
                refine Go.step (fun _ k => XS.dup X284.here hx rfl (hb hby at_331) rfl rfl k) ?_
                refine Go.step (fun _ k => XS.iconst X284.here hx rfl (hb hby at_332) k) ?_
                refine Go.step (fun _ k => XS.iload X284.here hx rfl (hb hby at_333) rfl k) ?_
                obtain ⟨cl290, Ar290, q290, S290, M290, H290, G290⟩ := id (V289)
                have hin290 : ¬ ((0 : Int32) < 0 ∨ cl290.slots.size ≤ ((0 : Int32)).toNatClampNeg) := inb_of S290 ⟨by decide, by decide⟩
                obtain ⟨T290, h290, X290, e290, W290, st290⟩ := stI X284 hx hZ e284 Ar290 (j := (0 : Int32)) hin290 (g := (mkF m 335 #[.val (.int ish), .val (.int ind), .val (.int iln), .val (.int ie0), .val (.int ie1), .val (.int ie2), .val (.int vp3), .val (.int vp4), .val (.int (0 : Int32)), .val (.int vn), .val (.int (0 : Int32)), .val (.int (1 : Int32)), .val (.int (2 : Int32)), .val (.ref b73), .val (.ref b80), .val (.ref b85), .val (.ref b93), .val (.ref b101), .unset, .unset, .unset, .unset, .unset, .unset, .unset, .unset] [(.int (0 : Int32)), (.int (0 : Int32)), (.ref b284), (.ref b284)])) rfl rfl (hb hby at_335)
                refine Go.step st290 ?_
                have V290 : Arv Z h290 b284 k284 .int (3 : Int32) [(.int (0 : Int32)), (.int (0 : Int32)), (.int (0 : Int32))] (.int (0 : Int32)) := Arv.set Ar290 q290 S290 M290 H290 G290 rfl W290 0 rfl (Nat.le_of_ble_eq_true rfl)
                have N290 := Fr.snoc X290 N105 g_b284
                have Z290 : n0 ≤ h290.size := Nat.le_trans Z284 (Keep.of_wr W290).1
                show Go _ _ _ _ _ _ _ T290 (mkF m 336 #[.val (.int ish), .val (.int ind), .val (.int iln), .val (.int ie0), .val (.int ie1), .val (.int ie2), .val (.int vp3), .val (.int vp4), .val (.int (0 : Int32)), .val (.int vn), .val (.int (0 : Int32)), .val (.int (1 : Int32)), .val (.int (2 : Int32)), .val (.ref b73), .val (.ref b80), .val (.ref b85), .val (.ref b93), .val (.ref b101), .unset, .unset, .unset, .unset, .unset, .unset, .unset, .unset] [(.ref b284)])
                refine Go.step (fun _ k => XS.dup X290.here hx rfl (hb hby at_336) rfl rfl k) ?_
                refine Go.step (fun _ k => XS.iconst X290.here hx rfl (hb hby at_337) k) ?_
                refine Go.step (fun _ k => XS.iload X290.here hx rfl (hb hby at_338) rfl k) ?_
                obtain ⟨cl291, Ar291, q291, S291, M291, H291, G291⟩ := id (V290)
                have hin291 : ¬ ((1 : Int32) < 0 ∨ cl291.slots.size ≤ ((1 : Int32)).toNatClampNeg) := inb_of S291 ⟨by decide, by decide⟩
                obtain ⟨T291, h291, X291, e291, W291, st291⟩ := stI X290 hx hZ e290 Ar291 (j := (1 : Int32)) hin291 (g := (mkF m 340 #[.val (.int ish), .val (.int ind), .val (.int iln), .val (.int ie0), .val (.int ie1), .val (.int ie2), .val (.int vp3), .val (.int vp4), .val (.int (0 : Int32)), .val (.int vn), .val (.int (0 : Int32)), .val (.int (1 : Int32)), .val (.int (2 : Int32)), .val (.ref b73), .val (.ref b80), .val (.ref b85), .val (.ref b93), .val (.ref b101), .unset, .unset, .unset, .unset, .unset, .unset, .unset, .unset] [(.int (1 : Int32)), (.int (1 : Int32)), (.ref b284), (.ref b284)])) rfl rfl (hb hby at_340)
                refine Go.step st291 ?_
                have V291 : Arv Z h291 b284 k284 .int (3 : Int32) [(.int (0 : Int32)), (.int (1 : Int32)), (.int (0 : Int32))] (.int (0 : Int32)) := Arv.set Ar291 q291 S291 M291 H291 G291 rfl W291 1 rfl (Nat.le_of_ble_eq_true rfl)
                have N291 := Fr.snoc X291 N290 g_b284
                have Z291 : n0 ≤ h291.size := Nat.le_trans Z290 (Keep.of_wr W291).1
                show Go _ _ _ _ _ _ _ T291 (mkF m 341 #[.val (.int ish), .val (.int ind), .val (.int iln), .val (.int ie0), .val (.int ie1), .val (.int ie2), .val (.int vp3), .val (.int vp4), .val (.int (0 : Int32)), .val (.int vn), .val (.int (0 : Int32)), .val (.int (1 : Int32)), .val (.int (2 : Int32)), .val (.ref b73), .val (.ref b80), .val (.ref b85), .val (.ref b93), .val (.ref b101), .unset, .unset, .unset, .unset, .unset, .unset, .unset, .unset] [(.ref b284)])
                refine Go.step (fun _ k => XS.dup X291.here hx rfl (hb hby at_341) rfl rfl k) ?_
                refine Go.step (fun _ k => XS.iconst X291.here hx rfl (hb hby at_342) k) ?_
                refine Go.step (fun _ k => XS.iload X291.here hx rfl (hb hby at_343) rfl k) ?_
                obtain ⟨cl292, Ar292, q292, S292, M292, H292, G292⟩ := id (V291)
                have hin292 : ¬ ((2 : Int32) < 0 ∨ cl292.slots.size ≤ ((2 : Int32)).toNatClampNeg) := inb_of S292 ⟨by decide, by decide⟩
                obtain ⟨T292, h292, X292, e292, W292, st292⟩ := stI X291 hx hZ e291 Ar292 (j := (2 : Int32)) hin292 (g := (mkF m 345 #[.val (.int ish), .val (.int ind), .val (.int iln), .val (.int ie0), .val (.int ie1), .val (.int ie2), .val (.int vp3), .val (.int vp4), .val (.int (0 : Int32)), .val (.int vn), .val (.int (0 : Int32)), .val (.int (1 : Int32)), .val (.int (2 : Int32)), .val (.ref b73), .val (.ref b80), .val (.ref b85), .val (.ref b93), .val (.ref b101), .unset, .unset, .unset, .unset, .unset, .unset, .unset, .unset] [(.int (2 : Int32)), (.int (2 : Int32)), (.ref b284), (.ref b284)])) rfl rfl (hb hby at_345)
                refine Go.step st292 ?_
                have V292 : Arv Z h292 b284 k284 .int (3 : Int32) [(.int (0 : Int32)), (.int (1 : Int32)), (.int (2 : Int32))] (.int (0 : Int32)) := Arv.set Ar292 q292 S292 M292 H292 G292 rfl W292 2 rfl (Nat.le_of_ble_eq_true rfl)
                have N292 := Fr.snoc X292 N291 g_b284
                have Z292 : n0 ≤ h292.size := Nat.le_trans Z291 (Keep.of_wr W292).1
                show Go _ _ _ _ _ _ _ T292 (mkF m 346 #[.val (.int ish), .val (.int ind), .val (.int iln), .val (.int ie0), .val (.int ie1), .val (.int ie2), .val (.int vp3), .val (.int vp4), .val (.int (0 : Int32)), .val (.int vn), .val (.int (0 : Int32)), .val (.int (1 : Int32)), .val (.int (2 : Int32)), .val (.ref b73), .val (.ref b80), .val (.ref b85), .val (.ref b93), .val (.ref b101), .unset, .unset, .unset, .unset, .unset, .unset, .unset, .unset] [(.ref b284)])
                refine Go.step (fun _ k => XS.astore X292.here hx rfl (hb hby at_346) rfl rfl (l' := #[.val (.int ish), .val (.int ind), .val (.int iln), .val (.int ie0), .val (.int ie1), .val (.int ie2), .val (.int vp3), .val (.int vp4), .val (.int (0 : Int32)), .val (.int vn), .val (.int (0 : Int32)), .val (.int (1 : Int32)), .val (.int (2 : Int32)), .val (.ref b73), .val (.ref b80), .val (.ref b85), .val (.ref b93), .val (.ref b101), .val (.ref b284), .unset, .unset, .unset, .unset, .unset, .unset, .unset]) rfl k) ?_
                show Go _ _ _ _ _ _ _ T292 (mkF m 348 #[.val (.int ish), .val (.int ind), .val (.int iln), .val (.int ie0), .val (.int ie1), .val (.int ie2), .val (.int vp3), .val (.int vp4), .val (.int (0 : Int32)), .val (.int vn), .val (.int (0 : Int32)), .val (.int (1 : Int32)), .val (.int (2 : Int32)), .val (.ref b73), .val (.ref b80), .val (.ref b85), .val (.ref b93), .val (.ref b101), .val (.ref b284), .unset, .unset, .unset, .unset, .unset, .unset, .unset] [])
                have f293 : Exa Z h292 b101 "com/example/wayfront/wayfront/paths/ShortestPathTree" := ((((E1_105.ext E284).wr W290).wr W291).wr W292)
                have f294 : Fld Z h292 b101 "com/example/wayfront/wayfront/paths/ShortestPathTree" "predecessor" "[I" (.ref b73) := ((((Fp_105.ext E284).other W290 (Or.inl ne_b101_b284)).other W291 (Or.inl ne_b101_b284)).other W292 (Or.inl ne_b101_b284))
                have f295 : Fld Z h292 b101 "com/example/wayfront/wayfront/paths/ShortestPathTree" "tail" "[I" (.ref b80) := ((((Ft_105.ext E284).other W290 (Or.inl ne_b101_b284)).other W291 (Or.inl ne_b101_b284)).other W292 (Or.inl ne_b101_b284))
                have f296 : Arv Z h292 b73 k73 .int (5 : Int32) [(.int (-1 : Int32)), (.int (-1 : Int32)), (.int (0 : Int32)), (.int (1 : Int32)), (.int (2 : Int32))] (.int (0 : Int32)) := ((((f285.ext E284).other W290 ne_b73_b284).other W291 ne_b73_b284).other W292 ne_b73_b284)
                have f297 : Arv Z h292 b80 k80 .int (3 : Int32) [(.int (1 : Int32)), (.int vp3), (.int vp4)] (.int (0 : Int32)) := ((((f286.ext E284).other W290 ne_b80_b284).other W291 ne_b80_b284).other W292 ne_b80_b284)
                exact J T292 h292 _ b284 k284 (3 : Int32) ([(0 : Int32), (1 : Int32), (2 : Int32)] : List Int32) ([2, 1, 0] : List Int32) (X292.more (by decide) (by decide)) e292 N292 Z292 f293 f294 f295 f296 f297 V292 rfl (by decide) (by decide) rfl (by have e_vn : vn = 4 := (own_ar22 vn b_vn hc188_191 hc202_203 hc221_216); have e_p4 : vp4 = 3 := (own_ar23 vp4 b_vp4 hc264_243 hc283_256); have e_p3 : vp3 = 2 := (own_ar24 vp3 b_vp3 hc307_270); rw [e_vn, e_p4, e_p3]; exact ⟨(show 0 ≤ (4 : Int32).toInt ∧ (4 : Int32).toInt < 5 from by decide), rfl, (show 0 ≤ (2 : Int32).toInt ∧ (2 : Int32).toInt < 3 from by decide), ⟨(show 0 ≤ (3 : Int32).toInt ∧ (3 : Int32).toInt < 5 from by decide), rfl, (show 0 ≤ (1 : Int32).toInt ∧ (1 : Int32).toInt < 3 from by decide), ⟨(show 0 ≤ (2 : Int32).toInt ∧ (2 : Int32).toInt < 5 from by decide), rfl, (show 0 ≤ (0 : Int32).toInt ∧ (0 : Int32).toInt < 3 from by decide), ⟨(show 0 ≤ (1 : Int32).toInt ∧ (1 : Int32).toInt < 5 from by decide), (show (-1 : Int32) < 0 from by decide)⟩⟩⟩⟩)
  · show Go _ _ _ _ _ _ _ s₁ (mkF m 35 #[.val (.int ish), .val (.int ind), .val (.int iln), .val (.int ie0), .val (.int ie1), .val (.int ie2), .val (.int vp3), .val (.int vp4), .val (.int (1 : Int32)), .val (.int vn), .unset, .unset, .unset, .unset, .unset, .unset, .unset, .unset, .unset, .unset, .unset, .unset, .unset, .unset, .unset, .unset] [])
    refine Go.step (fun _ k => XS.iconst X0.here hx rfl (hb hby at_35) k) ?_
    refine Go.step (fun _ k => XS.iload X0.here hx rfl (hb hby at_36) rfl k) ?_
    obtain ⟨_, _, ⟨T298, L298, k298, n298⟩, -, X298, ⟨Lc298, hQ298, l298, y298, z298⟩, st298⟩ := Jvm.LawKit.callS X0 hx (y := (⟨"com/example/wayfront/wayfront/paths/ShortestPathTreeIsPathToPinLaw", "link", "(II)I"⟩ : MethodName)) hown (mvT hZ (hw _ (List.mem_of_getElem? (i := 1) rfl))) (mvT hZ (hw _ (List.mem_of_getElem? (i := 2) rfl))) (mvT hZ (hw _ (List.mem_of_getElem? (i := 3) rfl))) (mvT hZ (hw _ (List.mem_of_getElem? (i := 4) rfl))) (by decide) (backOf (W := 0) (rmLk l Z a0 hw [] (2 : Int32) (1 : Int32) h0 n0 Z0 ) hZ (hw _ (List.mem_of_getElem? (i := 4) rfl)) (hw _ (List.mem_of_getElem? (i := 3) rfl)) (by decide) (by decide)) (g := (mkF m 38 #[.val (.int ish), .val (.int ind), .val (.int iln), .val (.int ie0), .val (.int ie1), .val (.int ie2), .val (.int vp3), .val (.int vp4), .val (.int (1 : Int32)), .val (.int vn), .unset, .unset, .unset, .unset, .unset, .unset, .unset, .unset, .unset, .unset, .unset, .unset, .unset, .unset, .unset, .unset] [(.int (1 : Int32)), (.int (2 : Int32))])) rfl (by rw [hml]; rfl) (argsL := [(.int (2 : Int32)), (.int (1 : Int32))]) (rest := []) (lenOf pd__II_I rfl) rfl (by show 2 * 0 + _ ≤ _; exact Nat.le_of_eq rfl) (hb hby at_38) (fun _ _ => ⟨rfl, e0, (by decide : 0 + 0 ≤ _), (by decide : 0 + 0 ≤ _)⟩)
    dsimp only [Pt.U, Pt.locs, Pt.cells, Pt.slots] at X298 l298 y298 z298 st298 hQ298
    subst l298 y298 z298
    obtain ⟨h298, e298⟩ : ∃ h, T298.heap = h := ⟨_, rfl⟩
    rw [e298] at hQ298
    obtain ⟨rfl, Nq298, hs298⟩ := hQ298
    have N298 := Fr.app N0 Nq298
    rw [hs298] at e298
    refine Go.step st298 ?_
    rw [show (own_lk (2 : Int32) (1 : Int32)) = (2 : Int32) from by decide]
    show Go _ _ _ _ _ _ _ T298 (mkF m 41 #[.val (.int ish), .val (.int ind), .val (.int iln), .val (.int ie0), .val (.int ie1), .val (.int ie2), .val (.int vp3), .val (.int vp4), .val (.int (1 : Int32)), .val (.int vn), .unset, .unset, .unset, .unset, .unset, .unset, .unset, .unset, .unset, .unset, .unset, .unset, .unset, .unset, .unset, .unset] [(.int (2 : Int32))])
    refine Go.step (fun _ k => XS.istore X298.here hx rfl (hb hby at_41) rfl (l' := #[.val (.int ish), .val (.int ind), .val (.int iln), .val (.int ie0), .val (.int ie1), .val (.int ie2), .val (.int vp3), .val (.int vp4), .val (.int (1 : Int32)), .val (.int vn), .val (.int (2 : Int32)), .unset, .unset, .unset, .unset, .unset, .unset, .unset, .unset, .unset, .unset, .unset, .unset, .unset, .unset, .unset]) rfl k) ?_
    show Go _ _ _ _ _ _ _ T298 (mkF m 43 #[.val (.int ish), .val (.int ind), .val (.int iln), .val (.int ie0), .val (.int ie1), .val (.int ie2), .val (.int vp3), .val (.int vp4), .val (.int (1 : Int32)), .val (.int vn), .val (.int (2 : Int32)), .unset, .unset, .unset, .unset, .unset, .unset, .unset, .unset, .unset, .unset, .unset, .unset, .unset, .unset, .unset] [])
    refine Go.step (fun _ k => XS.iconst X298.here hx rfl (hb hby at_43) k) ?_
    refine Go.step (fun _ k => XS.iload X298.here hx rfl (hb hby at_44) rfl k) ?_
    obtain ⟨_, _, ⟨T299, L299, k299, n299⟩, -, X299, ⟨Lc299, hQ299, l299, y299, z299⟩, st299⟩ := Jvm.LawKit.callS X298 hx (y := (⟨"com/example/wayfront/wayfront/paths/ShortestPathTreeIsPathToPinLaw", "link", "(II)I"⟩ : MethodName)) hown (mvT hZ (hw _ (List.mem_of_getElem? (i := 1) rfl))) (mvT hZ (hw _ (List.mem_of_getElem? (i := 2) rfl))) (mvT hZ (hw _ (List.mem_of_getElem? (i := 3) rfl))) (mvT hZ (hw _ (List.mem_of_getElem? (i := 4) rfl))) (by decide) (backOf (W := 0) (rmLk l Z a0 hw [] (3 : Int32) (1 : Int32) h0 n0 Z0 ) hZ (hw _ (List.mem_of_getElem? (i := 4) rfl)) (hw _ (List.mem_of_getElem? (i := 3) rfl)) (by decide) (by decide)) (g := (mkF m 46 #[.val (.int ish), .val (.int ind), .val (.int iln), .val (.int ie0), .val (.int ie1), .val (.int ie2), .val (.int vp3), .val (.int vp4), .val (.int (1 : Int32)), .val (.int vn), .val (.int (2 : Int32)), .unset, .unset, .unset, .unset, .unset, .unset, .unset, .unset, .unset, .unset, .unset, .unset, .unset, .unset, .unset] [(.int (1 : Int32)), (.int (3 : Int32))])) rfl (by rw [hml]; rfl) (argsL := [(.int (3 : Int32)), (.int (1 : Int32))]) (rest := []) (lenOf pd__II_I rfl) rfl (by show 2 * 0 + _ ≤ _; exact Nat.le_of_eq rfl) (hb hby at_46) (fun _ _ => ⟨rfl, e298, (by decide : 0 + 0 ≤ _), (by decide : 0 + 0 ≤ _)⟩)
    dsimp only [Pt.U, Pt.locs, Pt.cells, Pt.slots] at X299 l299 y299 z299 st299 hQ299
    subst l299 y299 z299
    obtain ⟨h299, e299⟩ : ∃ h, T299.heap = h := ⟨_, rfl⟩
    rw [e299] at hQ299
    obtain ⟨rfl, Nq299, hs299⟩ := hQ299
    have N299 := Fr.app N298 Nq299
    rw [hs299] at e299
    refine Go.step st299 ?_
    rw [show (own_lk (3 : Int32) (1 : Int32)) = (1 : Int32) from by decide]
    show Go _ _ _ _ _ _ _ T299 (mkF m 49 #[.val (.int ish), .val (.int ind), .val (.int iln), .val (.int ie0), .val (.int ie1), .val (.int ie2), .val (.int vp3), .val (.int vp4), .val (.int (1 : Int32)), .val (.int vn), .val (.int (2 : Int32)), .unset, .unset, .unset, .unset, .unset, .unset, .unset, .unset, .unset, .unset, .unset, .unset, .unset, .unset, .unset] [(.int (1 : Int32))])
    refine Go.step (fun _ k => XS.istore X299.here hx rfl (hb hby at_49) rfl (l' := #[.val (.int ish), .val (.int ind), .val (.int iln), .val (.int ie0), .val (.int ie1), .val (.int ie2), .val (.int vp3), .val (.int vp4), .val (.int (1 : Int32)), .val (.int vn), .val (.int (2 : Int32)), .val (.int (1 : Int32)), .unset, .unset, .unset, .unset, .unset, .unset, .unset, .unset, .unset, .unset, .unset, .unset, .unset, .unset]) rfl k) ?_
    show Go _ _ _ _ _ _ _ T299 (mkF m 51 #[.val (.int ish), .val (.int ind), .val (.int iln), .val (.int ie0), .val (.int ie1), .val (.int ie2), .val (.int vp3), .val (.int vp4), .val (.int (1 : Int32)), .val (.int vn), .val (.int (2 : Int32)), .val (.int (1 : Int32)), .unset, .unset, .unset, .unset, .unset, .unset, .unset, .unset, .unset, .unset, .unset, .unset, .unset, .unset] [])
    refine Go.step (fun _ k => XS.iconst X299.here hx rfl (hb hby at_51) k) ?_
    refine Go.step (fun _ k => XS.iload X299.here hx rfl (hb hby at_52) rfl k) ?_
    obtain ⟨_, _, ⟨T300, L300, k300, n300⟩, -, X300, ⟨Lc300, hQ300, l300, y300, z300⟩, st300⟩ := Jvm.LawKit.callS X299 hx (y := (⟨"com/example/wayfront/wayfront/paths/ShortestPathTreeIsPathToPinLaw", "link", "(II)I"⟩ : MethodName)) hown (mvT hZ (hw _ (List.mem_of_getElem? (i := 1) rfl))) (mvT hZ (hw _ (List.mem_of_getElem? (i := 2) rfl))) (mvT hZ (hw _ (List.mem_of_getElem? (i := 3) rfl))) (mvT hZ (hw _ (List.mem_of_getElem? (i := 4) rfl))) (by decide) (backOf (W := 0) (rmLk l Z a0 hw [] (4 : Int32) (1 : Int32) h0 n0 Z0 ) hZ (hw _ (List.mem_of_getElem? (i := 4) rfl)) (hw _ (List.mem_of_getElem? (i := 3) rfl)) (by decide) (by decide)) (g := (mkF m 54 #[.val (.int ish), .val (.int ind), .val (.int iln), .val (.int ie0), .val (.int ie1), .val (.int ie2), .val (.int vp3), .val (.int vp4), .val (.int (1 : Int32)), .val (.int vn), .val (.int (2 : Int32)), .val (.int (1 : Int32)), .unset, .unset, .unset, .unset, .unset, .unset, .unset, .unset, .unset, .unset, .unset, .unset, .unset, .unset] [(.int (1 : Int32)), (.int (4 : Int32))])) rfl (by rw [hml]; rfl) (argsL := [(.int (4 : Int32)), (.int (1 : Int32))]) (rest := []) (lenOf pd__II_I rfl) rfl (by show 2 * 0 + _ ≤ _; exact Nat.le_of_eq rfl) (hb hby at_54) (fun _ _ => ⟨rfl, e299, (by decide : 0 + 0 ≤ _), (by decide : 0 + 0 ≤ _)⟩)
    dsimp only [Pt.U, Pt.locs, Pt.cells, Pt.slots] at X300 l300 y300 z300 st300 hQ300
    subst l300 y300 z300
    obtain ⟨h300, e300⟩ : ∃ h, T300.heap = h := ⟨_, rfl⟩
    rw [e300] at hQ300
    obtain ⟨rfl, Nq300, hs300⟩ := hQ300
    have N300 := Fr.app N299 Nq300
    rw [hs300] at e300
    refine Go.step st300 ?_
    rw [show (own_lk (4 : Int32) (1 : Int32)) = (0 : Int32) from by decide]
    show Go _ _ _ _ _ _ _ T300 (mkF m 57 #[.val (.int ish), .val (.int ind), .val (.int iln), .val (.int ie0), .val (.int ie1), .val (.int ie2), .val (.int vp3), .val (.int vp4), .val (.int (1 : Int32)), .val (.int vn), .val (.int (2 : Int32)), .val (.int (1 : Int32)), .unset, .unset, .unset, .unset, .unset, .unset, .unset, .unset, .unset, .unset, .unset, .unset, .unset, .unset] [(.int (0 : Int32))])
    refine Go.step (fun _ k => XS.istore X300.here hx rfl (hb hby at_57) rfl (l' := #[.val (.int ish), .val (.int ind), .val (.int iln), .val (.int ie0), .val (.int ie1), .val (.int ie2), .val (.int vp3), .val (.int vp4), .val (.int (1 : Int32)), .val (.int vn), .val (.int (2 : Int32)), .val (.int (1 : Int32)), .val (.int (0 : Int32)), .unset, .unset, .unset, .unset, .unset, .unset, .unset, .unset, .unset, .unset, .unset, .unset, .unset]) rfl k) ?_
    show Go _ _ _ _ _ _ _ T300 (mkF m 59 #[.val (.int ish), .val (.int ind), .val (.int iln), .val (.int ie0), .val (.int ie1), .val (.int ie2), .val (.int vp3), .val (.int vp4), .val (.int (1 : Int32)), .val (.int vn), .val (.int (2 : Int32)), .val (.int (1 : Int32)), .val (.int (0 : Int32)), .unset, .unset, .unset, .unset, .unset, .unset, .unset, .unset, .unset, .unset, .unset, .unset, .unset] [])
    refine Go.step (fun _ k => XS.iconst X300.here hx rfl (hb hby at_59) k) ?_
    obtain ⟨T301, h301, k301, X301, e301, E301, A301, st301⟩ := newP X300 hx hZ (hw _ (List.mem_of_getElem? (i := 5) rfl)) e300 (g := (mkF m 60 #[.val (.int ish), .val (.int ind), .val (.int iln), .val (.int ie0), .val (.int ie1), .val (.int ie2), .val (.int vp3), .val (.int vp4), .val (.int (1 : Int32)), .val (.int vn), .val (.int (2 : Int32)), .val (.int (1 : Int32)), .val (.int (0 : Int32)), .unset, .unset, .unset, .unset, .unset, .unset, .unset, .unset, .unset, .unset, .unset, .unset, .unset] [(.int (5 : Int32))])) rfl (hb hby at_60) rfl (by decide) (cap := 5) (by decide) (by decide) (by decide) (by decide)
    obtain ⟨b301, g301⟩ : ∃ z, z = h0.size := ⟨_, rfl⟩
    rw [← g301] at A301 st301
    refine Go.step st301 ?_
    have g_b301 : n0 ≤ b301 := Nat.le_trans Z0 (Nat.le_of_eq g301.symm)
    have Z301 : n0 ≤ h301.size := Nat.le_trans Z0 E301.1
    have V301 : Arv Z h301 b301 k301 .int (5 : Int32) [] (.int (0 : Int32)) := Arv.new A301 (by decide)
    have V302 : Arv Z h301 b301 k301 .int (5 : Int32) [(.int (0 : Int32)), (.int (0 : Int32)), (.int (0 : Int32)), (.int (0 : Int32)), (.int (0 : Int32))] (.int (0 : Int32)) := (V301).pad (pad_rep [] (.int (0 : Int32)) 5)
    show Go _ _ _ _ _ _ _ T301 (mkF m 62 #[.val (.int ish), .val (.int ind), .val (.int iln), .val (.int ie0), .val (.int ie1), .val (.int ie2), .val (.int vp3), .val (.int vp4), .val (.int (1 : Int32)), .val (.int vn), .val (.int (2 : Int32)), .val (.int (1 : Int32)), .val (.int (0 : Int32)), .unset, .unset, .unset, .unset, .unset, .unset, .unset, .unset, .unset, .unset, .unset, .unset, .unset] [(.ref b301)])
    refine Go.step (fun _ k => XS.astore X301.here hx rfl (hb hby at_62) rfl rfl (l' := #[.val (.int ish), .val (.int ind), .val (.int iln), .val (.int ie0), .val (.int ie1), .val (.int ie2), .val (.int vp3), .val (.int vp4), .val (.int (1 : Int32)), .val (.int vn), .val (.int (2 : Int32)), .val (.int (1 : Int32)), .val (.int (0 : Int32)), .val (.ref b301), .unset, .unset, .unset, .unset, .unset, .unset, .unset, .unset, .unset, .unset, .unset, .unset]) rfl k) ?_
    show Go _ _ _ _ _ _ _ T301 (mkF m 64 #[.val (.int ish), .val (.int ind), .val (.int iln), .val (.int ie0), .val (.int ie1), .val (.int ie2), .val (.int vp3), .val (.int vp4), .val (.int (1 : Int32)), .val (.int vn), .val (.int (2 : Int32)), .val (.int (1 : Int32)), .val (.int (0 : Int32)), .val (.ref b301), .unset, .unset, .unset, .unset, .unset, .unset, .unset, .unset, .unset, .unset, .unset, .unset] [])
    refine Go.step (fun _ k => XS.aload X301.here hx rfl (hb hby at_64) rfl rfl k) ?_
    refine Go.step (fun _ k => XS.iconst X301.here hx rfl (hb hby at_66) k) ?_
    refine Go.step (fun _ k => XS.iconst X301.here hx rfl (hb hby at_67) k) ?_
    obtain ⟨cl303, Ar303, q303, S303, M303, H303, G303⟩ := id (V302)
    have hin303 : ¬ ((0 : Int32) < 0 ∨ cl303.slots.size ≤ ((0 : Int32)).toNatClampNeg) := inb_of S303 ⟨by decide, by decide⟩
    obtain ⟨T303, h303, X303, e303, W303, st303⟩ := stI X301 hx hZ e301 Ar303 (j := (0 : Int32)) hin303 (g := (mkF m 68 #[.val (.int ish), .val (.int ind), .val (.int iln), .val (.int ie0), .val (.int ie1), .val (.int ie2), .val (.int vp3), .val (.int vp4), .val (.int (1 : Int32)), .val (.int vn), .val (.int (2 : Int32)), .val (.int (1 : Int32)), .val (.int (0 : Int32)), .val (.ref b301), .unset, .unset, .unset, .unset, .unset, .unset, .unset, .unset, .unset, .unset, .unset, .unset] [(.int (-1 : Int32)), (.int (0 : Int32)), (.ref b301)])) rfl rfl (hb hby at_68)
    refine Go.step st303 ?_
    have V303 : Arv Z h303 b301 k301 .int (5 : Int32) [(.int (-1 : Int32)), (.int (0 : Int32)), (.int (0 : Int32)), (.int (0 : Int32)), (.int (0 : Int32))] (.int (0 : Int32)) := Arv.set Ar303 q303 S303 M303 H303 G303 rfl W303 0 rfl (Nat.le_of_ble_eq_true rfl)
    have N303 := Fr.snoc X303 N300 g_b301
    have Z303 : n0 ≤ h303.size := Nat.le_trans Z301 (Keep.of_wr W303).1
    show Go _ _ _ _ _ _ _ T303 (mkF m 69 #[.val (.int ish), .val (.int ind), .val (.int iln), .val (.int ie0), .val (.int ie1), .val (.int ie2), .val (.int vp3), .val (.int vp4), .val (.int (1 : Int32)), .val (.int vn), .val (.int (2 : Int32)), .val (.int (1 : Int32)), .val (.int (0 : Int32)), .val (.ref b301), .unset, .unset, .unset, .unset, .unset, .unset, .unset, .unset, .unset, .unset, .unset, .unset] [])
    refine Go.step (fun _ k => XS.aload X303.here hx rfl (hb hby at_69) rfl rfl k) ?_
    refine Go.step (fun _ k => XS.iconst X303.here hx rfl (hb hby at_71) k) ?_
    refine Go.step (fun _ k => XS.iconst X303.here hx rfl (hb hby at_72) k) ?_
    obtain ⟨cl304, Ar304, q304, S304, M304, H304, G304⟩ := id (V303)
    have hin304 : ¬ ((1 : Int32) < 0 ∨ cl304.slots.size ≤ ((1 : Int32)).toNatClampNeg) := inb_of S304 ⟨by decide, by decide⟩
    obtain ⟨T304, h304, X304, e304, W304, st304⟩ := stI X303 hx hZ e303 Ar304 (j := (1 : Int32)) hin304 (g := (mkF m 73 #[.val (.int ish), .val (.int ind), .val (.int iln), .val (.int ie0), .val (.int ie1), .val (.int ie2), .val (.int vp3), .val (.int vp4), .val (.int (1 : Int32)), .val (.int vn), .val (.int (2 : Int32)), .val (.int (1 : Int32)), .val (.int (0 : Int32)), .val (.ref b301), .unset, .unset, .unset, .unset, .unset, .unset, .unset, .unset, .unset, .unset, .unset, .unset] [(.int (-1 : Int32)), (.int (1 : Int32)), (.ref b301)])) rfl rfl (hb hby at_73)
    refine Go.step st304 ?_
    have V304 : Arv Z h304 b301 k301 .int (5 : Int32) [(.int (-1 : Int32)), (.int (-1 : Int32)), (.int (0 : Int32)), (.int (0 : Int32)), (.int (0 : Int32))] (.int (0 : Int32)) := Arv.set Ar304 q304 S304 M304 H304 G304 rfl W304 1 rfl (Nat.le_of_ble_eq_true rfl)
    have N304 := Fr.snoc X304 N303 g_b301
    have Z304 : n0 ≤ h304.size := Nat.le_trans Z303 (Keep.of_wr W304).1
    show Go _ _ _ _ _ _ _ T304 (mkF m 74 #[.val (.int ish), .val (.int ind), .val (.int iln), .val (.int ie0), .val (.int ie1), .val (.int ie2), .val (.int vp3), .val (.int vp4), .val (.int (1 : Int32)), .val (.int vn), .val (.int (2 : Int32)), .val (.int (1 : Int32)), .val (.int (0 : Int32)), .val (.ref b301), .unset, .unset, .unset, .unset, .unset, .unset, .unset, .unset, .unset, .unset, .unset, .unset] [])
    refine Go.step (fun _ k => XS.aload X304.here hx rfl (hb hby at_74) rfl rfl k) ?_
    refine Go.step (fun _ k => XS.iconst X304.here hx rfl (hb hby at_76) k) ?_
    refine Go.step (fun _ k => XS.iload X304.here hx rfl (hb hby at_77) rfl k) ?_
    obtain ⟨cl305, Ar305, q305, S305, M305, H305, G305⟩ := id (V304)
    have hin305 : ¬ ((2 : Int32) < 0 ∨ cl305.slots.size ≤ ((2 : Int32)).toNatClampNeg) := inb_of S305 ⟨by decide, by decide⟩
    obtain ⟨T305, h305, X305, e305, W305, st305⟩ := stI X304 hx hZ e304 Ar305 (j := (2 : Int32)) hin305 (g := (mkF m 79 #[.val (.int ish), .val (.int ind), .val (.int iln), .val (.int ie0), .val (.int ie1), .val (.int ie2), .val (.int vp3), .val (.int vp4), .val (.int (1 : Int32)), .val (.int vn), .val (.int (2 : Int32)), .val (.int (1 : Int32)), .val (.int (0 : Int32)), .val (.ref b301), .unset, .unset, .unset, .unset, .unset, .unset, .unset, .unset, .unset, .unset, .unset, .unset] [(.int (2 : Int32)), (.int (2 : Int32)), (.ref b301)])) rfl rfl (hb hby at_79)
    refine Go.step st305 ?_
    have V305 : Arv Z h305 b301 k301 .int (5 : Int32) [(.int (-1 : Int32)), (.int (-1 : Int32)), (.int (2 : Int32)), (.int (0 : Int32)), (.int (0 : Int32))] (.int (0 : Int32)) := Arv.set Ar305 q305 S305 M305 H305 G305 rfl W305 2 rfl (Nat.le_of_ble_eq_true rfl)
    have N305 := Fr.snoc X305 N304 g_b301
    have Z305 : n0 ≤ h305.size := Nat.le_trans Z304 (Keep.of_wr W305).1
    show Go _ _ _ _ _ _ _ T305 (mkF m 80 #[.val (.int ish), .val (.int ind), .val (.int iln), .val (.int ie0), .val (.int ie1), .val (.int ie2), .val (.int vp3), .val (.int vp4), .val (.int (1 : Int32)), .val (.int vn), .val (.int (2 : Int32)), .val (.int (1 : Int32)), .val (.int (0 : Int32)), .val (.ref b301), .unset, .unset, .unset, .unset, .unset, .unset, .unset, .unset, .unset, .unset, .unset, .unset] [])
    refine Go.step (fun _ k => XS.aload X305.here hx rfl (hb hby at_80) rfl rfl k) ?_
    refine Go.step (fun _ k => XS.iconst X305.here hx rfl (hb hby at_82) k) ?_
    refine Go.step (fun _ k => XS.iload X305.here hx rfl (hb hby at_83) rfl k) ?_
    obtain ⟨cl306, Ar306, q306, S306, M306, H306, G306⟩ := id (V305)
    have hin306 : ¬ ((3 : Int32) < 0 ∨ cl306.slots.size ≤ ((3 : Int32)).toNatClampNeg) := inb_of S306 ⟨by decide, by decide⟩
    obtain ⟨T306, h306, X306, e306, W306, st306⟩ := stI X305 hx hZ e305 Ar306 (j := (3 : Int32)) hin306 (g := (mkF m 85 #[.val (.int ish), .val (.int ind), .val (.int iln), .val (.int ie0), .val (.int ie1), .val (.int ie2), .val (.int vp3), .val (.int vp4), .val (.int (1 : Int32)), .val (.int vn), .val (.int (2 : Int32)), .val (.int (1 : Int32)), .val (.int (0 : Int32)), .val (.ref b301), .unset, .unset, .unset, .unset, .unset, .unset, .unset, .unset, .unset, .unset, .unset, .unset] [(.int (1 : Int32)), (.int (3 : Int32)), (.ref b301)])) rfl rfl (hb hby at_85)
    refine Go.step st306 ?_
    have V306 : Arv Z h306 b301 k301 .int (5 : Int32) [(.int (-1 : Int32)), (.int (-1 : Int32)), (.int (2 : Int32)), (.int (1 : Int32)), (.int (0 : Int32))] (.int (0 : Int32)) := Arv.set Ar306 q306 S306 M306 H306 G306 rfl W306 3 rfl (Nat.le_of_ble_eq_true rfl)
    have N306 := Fr.snoc X306 N305 g_b301
    have Z306 : n0 ≤ h306.size := Nat.le_trans Z305 (Keep.of_wr W306).1
    show Go _ _ _ _ _ _ _ T306 (mkF m 86 #[.val (.int ish), .val (.int ind), .val (.int iln), .val (.int ie0), .val (.int ie1), .val (.int ie2), .val (.int vp3), .val (.int vp4), .val (.int (1 : Int32)), .val (.int vn), .val (.int (2 : Int32)), .val (.int (1 : Int32)), .val (.int (0 : Int32)), .val (.ref b301), .unset, .unset, .unset, .unset, .unset, .unset, .unset, .unset, .unset, .unset, .unset, .unset] [])
    refine Go.step (fun _ k => XS.aload X306.here hx rfl (hb hby at_86) rfl rfl k) ?_
    refine Go.step (fun _ k => XS.iconst X306.here hx rfl (hb hby at_88) k) ?_
    refine Go.step (fun _ k => XS.iload X306.here hx rfl (hb hby at_89) rfl k) ?_
    obtain ⟨cl307, Ar307, q307, S307, M307, H307, G307⟩ := id (V306)
    have hin307 : ¬ ((4 : Int32) < 0 ∨ cl307.slots.size ≤ ((4 : Int32)).toNatClampNeg) := inb_of S307 ⟨by decide, by decide⟩
    obtain ⟨T307, h307, X307, e307, W307, st307⟩ := stI X306 hx hZ e306 Ar307 (j := (4 : Int32)) hin307 (g := (mkF m 91 #[.val (.int ish), .val (.int ind), .val (.int iln), .val (.int ie0), .val (.int ie1), .val (.int ie2), .val (.int vp3), .val (.int vp4), .val (.int (1 : Int32)), .val (.int vn), .val (.int (2 : Int32)), .val (.int (1 : Int32)), .val (.int (0 : Int32)), .val (.ref b301), .unset, .unset, .unset, .unset, .unset, .unset, .unset, .unset, .unset, .unset, .unset, .unset] [(.int (0 : Int32)), (.int (4 : Int32)), (.ref b301)])) rfl rfl (hb hby at_91)
    refine Go.step st307 ?_
    have V307 : Arv Z h307 b301 k301 .int (5 : Int32) [(.int (-1 : Int32)), (.int (-1 : Int32)), (.int (2 : Int32)), (.int (1 : Int32)), (.int (0 : Int32))] (.int (0 : Int32)) := Arv.set Ar307 q307 S307 M307 H307 G307 rfl W307 4 rfl (Nat.le_of_ble_eq_true rfl)
    have N307 := Fr.snoc X307 N306 g_b301
    have Z307 : n0 ≤ h307.size := Nat.le_trans Z306 (Keep.of_wr W307).1
    show Go _ _ _ _ _ _ _ T307 (mkF m 92 #[.val (.int ish), .val (.int ind), .val (.int iln), .val (.int ie0), .val (.int ie1), .val (.int ie2), .val (.int vp3), .val (.int vp4), .val (.int (1 : Int32)), .val (.int vn), .val (.int (2 : Int32)), .val (.int (1 : Int32)), .val (.int (0 : Int32)), .val (.ref b301), .unset, .unset, .unset, .unset, .unset, .unset, .unset, .unset, .unset, .unset, .unset, .unset] [])
    refine Go.step (fun _ k => XS.iconst X307.here hx rfl (hb hby at_92) k) ?_
    obtain ⟨T308, h308, k308, X308, e308, E308, A308, st308⟩ := newP X307 hx hZ (hw _ (List.mem_of_getElem? (i := 5) rfl)) e307 (g := (mkF m 93 #[.val (.int ish), .val (.int ind), .val (.int iln), .val (.int ie0), .val (.int ie1), .val (.int ie2), .val (.int vp3), .val (.int vp4), .val (.int (1 : Int32)), .val (.int vn), .val (.int (2 : Int32)), .val (.int (1 : Int32)), .val (.int (0 : Int32)), .val (.ref b301), .unset, .unset, .unset, .unset, .unset, .unset, .unset, .unset, .unset, .unset, .unset, .unset] [(.int (3 : Int32))])) rfl (hb hby at_93) rfl (by decide) (cap := 3) (by decide) (by decide) (by decide) (by decide)
    obtain ⟨b308, g308⟩ : ∃ z, z = h307.size := ⟨_, rfl⟩
    rw [← g308] at A308 st308
    refine Go.step st308 ?_
    have g_b308 : n0 ≤ b308 := Nat.le_trans Z307 (Nat.le_of_eq g308.symm)
    have ne_b301_b308 : b301 ≠ b308 := Nat.ne_of_lt (Nat.lt_of_lt_of_le V307.lt (Nat.le_of_eq g308.symm))
    have Z308 : n0 ≤ h308.size := Nat.le_trans Z307 E308.1
    have V308 : Arv Z h308 b308 k308 .int (3 : Int32) [] (.int (0 : Int32)) := Arv.new A308 (by decide)
    have V309 : Arv Z h308 b308 k308 .int (3 : Int32) [(.int (0 : Int32)), (.int (0 : Int32)), (.int (0 : Int32))] (.int (0 : Int32)) := (V308).pad (pad_rep [] (.int (0 : Int32)) 3)
    show Go _ _ _ _ _ _ _ T308 (mkF m 95 #[.val (.int ish), .val (.int ind), .val (.int iln), .val (.int ie0), .val (.int ie1), .val (.int ie2), .val (.int vp3), .val (.int vp4), .val (.int (1 : Int32)), .val (.int vn), .val (.int (2 : Int32)), .val (.int (1 : Int32)), .val (.int (0 : Int32)), .val (.ref b301), .unset, .unset, .unset, .unset, .unset, .unset, .unset, .unset, .unset, .unset, .unset, .unset] [(.ref b308)])
    refine Go.step (fun _ k => XS.astore X308.here hx rfl (hb hby at_95) rfl rfl (l' := #[.val (.int ish), .val (.int ind), .val (.int iln), .val (.int ie0), .val (.int ie1), .val (.int ie2), .val (.int vp3), .val (.int vp4), .val (.int (1 : Int32)), .val (.int vn), .val (.int (2 : Int32)), .val (.int (1 : Int32)), .val (.int (0 : Int32)), .val (.ref b301), .val (.ref b308), .unset, .unset, .unset, .unset, .unset, .unset, .unset, .unset, .unset, .unset, .unset]) rfl k) ?_
    show Go _ _ _ _ _ _ _ T308 (mkF m 97 #[.val (.int ish), .val (.int ind), .val (.int iln), .val (.int ie0), .val (.int ie1), .val (.int ie2), .val (.int vp3), .val (.int vp4), .val (.int (1 : Int32)), .val (.int vn), .val (.int (2 : Int32)), .val (.int (1 : Int32)), .val (.int (0 : Int32)), .val (.ref b301), .val (.ref b308), .unset, .unset, .unset, .unset, .unset, .unset, .unset, .unset, .unset, .unset, .unset] [])
    refine Go.step (fun _ k => XS.aload X308.here hx rfl (hb hby at_97) rfl rfl k) ?_
    refine Go.step (fun _ k => XS.iload X308.here hx rfl (hb hby at_99) rfl k) ?_
    refine Go.step (fun _ k => XS.iconst X308.here hx rfl (hb hby at_101) k) ?_
    obtain ⟨cl310, Ar310, q310, S310, M310, H310, G310⟩ := id (V309)
    have hin310 : ¬ ((2 : Int32) < 0 ∨ cl310.slots.size ≤ ((2 : Int32)).toNatClampNeg) := inb_of S310 ⟨by decide, by decide⟩
    obtain ⟨T310, h310, X310, e310, W310, st310⟩ := stI X308 hx hZ e308 Ar310 (j := (2 : Int32)) hin310 (g := (mkF m 102 #[.val (.int ish), .val (.int ind), .val (.int iln), .val (.int ie0), .val (.int ie1), .val (.int ie2), .val (.int vp3), .val (.int vp4), .val (.int (1 : Int32)), .val (.int vn), .val (.int (2 : Int32)), .val (.int (1 : Int32)), .val (.int (0 : Int32)), .val (.ref b301), .val (.ref b308), .unset, .unset, .unset, .unset, .unset, .unset, .unset, .unset, .unset, .unset, .unset] [(.int (1 : Int32)), (.int (2 : Int32)), (.ref b308)])) rfl rfl (hb hby at_102)
    refine Go.step st310 ?_
    have V310 : Arv Z h310 b308 k308 .int (3 : Int32) [(.int (0 : Int32)), (.int (0 : Int32)), (.int (1 : Int32))] (.int (0 : Int32)) := Arv.set Ar310 q310 S310 M310 H310 G310 rfl W310 2 rfl (Nat.le_of_ble_eq_true rfl)
    have N310 := Fr.snoc X310 N307 g_b308
    have Z310 : n0 ≤ h310.size := Nat.le_trans Z308 (Keep.of_wr W310).1
    show Go _ _ _ _ _ _ _ T310 (mkF m 103 #[.val (.int ish), .val (.int ind), .val (.int iln), .val (.int ie0), .val (.int ie1), .val (.int ie2), .val (.int vp3), .val (.int vp4), .val (.int (1 : Int32)), .val (.int vn), .val (.int (2 : Int32)), .val (.int (1 : Int32)), .val (.int (0 : Int32)), .val (.ref b301), .val (.ref b308), .unset, .unset, .unset, .unset, .unset, .unset, .unset, .unset, .unset, .unset, .unset] [])
    refine Go.step (fun _ k => XS.aload X310.here hx rfl (hb hby at_103) rfl rfl k) ?_
    refine Go.step (fun _ k => XS.iload X310.here hx rfl (hb hby at_105) rfl k) ?_
    refine Go.step (fun _ k => XS.iload X310.here hx rfl (hb hby at_107) rfl k) ?_
    obtain ⟨cl311, Ar311, q311, S311, M311, H311, G311⟩ := id (V310)
    have hin311 : ¬ ((1 : Int32) < 0 ∨ cl311.slots.size ≤ ((1 : Int32)).toNatClampNeg) := inb_of S311 ⟨by decide, by decide⟩
    obtain ⟨T311, h311, X311, e311, W311, st311⟩ := stI X310 hx hZ e310 Ar311 (j := (1 : Int32)) hin311 (g := (mkF m 109 #[.val (.int ish), .val (.int ind), .val (.int iln), .val (.int ie0), .val (.int ie1), .val (.int ie2), .val (.int vp3), .val (.int vp4), .val (.int (1 : Int32)), .val (.int vn), .val (.int (2 : Int32)), .val (.int (1 : Int32)), .val (.int (0 : Int32)), .val (.ref b301), .val (.ref b308), .unset, .unset, .unset, .unset, .unset, .unset, .unset, .unset, .unset, .unset, .unset] [(.int vp3), (.int (1 : Int32)), (.ref b308)])) rfl rfl (hb hby at_109)
    refine Go.step st311 ?_
    have V311 : Arv Z h311 b308 k308 .int (3 : Int32) [(.int (0 : Int32)), (.int vp3), (.int (1 : Int32))] (.int (0 : Int32)) := Arv.set Ar311 q311 S311 M311 H311 G311 rfl W311 1 rfl (Nat.le_of_ble_eq_true rfl)
    have N311 := Fr.snoc X311 N310 g_b308
    have Z311 : n0 ≤ h311.size := Nat.le_trans Z310 (Keep.of_wr W311).1
    show Go _ _ _ _ _ _ _ T311 (mkF m 110 #[.val (.int ish), .val (.int ind), .val (.int iln), .val (.int ie0), .val (.int ie1), .val (.int ie2), .val (.int vp3), .val (.int vp4), .val (.int (1 : Int32)), .val (.int vn), .val (.int (2 : Int32)), .val (.int (1 : Int32)), .val (.int (0 : Int32)), .val (.ref b301), .val (.ref b308), .unset, .unset, .unset, .unset, .unset, .unset, .unset, .unset, .unset, .unset, .unset] [])
    refine Go.step (fun _ k => XS.aload X311.here hx rfl (hb hby at_110) rfl rfl k) ?_
    refine Go.step (fun _ k => XS.iload X311.here hx rfl (hb hby at_112) rfl k) ?_
    refine Go.step (fun _ k => XS.iload X311.here hx rfl (hb hby at_114) rfl k) ?_
    obtain ⟨cl312, Ar312, q312, S312, M312, H312, G312⟩ := id (V311)
    have hin312 : ¬ ((0 : Int32) < 0 ∨ cl312.slots.size ≤ ((0 : Int32)).toNatClampNeg) := inb_of S312 ⟨by decide, by decide⟩
    obtain ⟨T312, h312, X312, e312, W312, st312⟩ := stI X311 hx hZ e311 Ar312 (j := (0 : Int32)) hin312 (g := (mkF m 116 #[.val (.int ish), .val (.int ind), .val (.int iln), .val (.int ie0), .val (.int ie1), .val (.int ie2), .val (.int vp3), .val (.int vp4), .val (.int (1 : Int32)), .val (.int vn), .val (.int (2 : Int32)), .val (.int (1 : Int32)), .val (.int (0 : Int32)), .val (.ref b301), .val (.ref b308), .unset, .unset, .unset, .unset, .unset, .unset, .unset, .unset, .unset, .unset, .unset] [(.int vp4), (.int (0 : Int32)), (.ref b308)])) rfl rfl (hb hby at_116)
    refine Go.step st312 ?_
    have V312 : Arv Z h312 b308 k308 .int (3 : Int32) [(.int vp4), (.int vp3), (.int (1 : Int32))] (.int (0 : Int32)) := Arv.set Ar312 q312 S312 M312 H312 G312 rfl W312 0 rfl (Nat.le_of_ble_eq_true rfl)
    have N312 := Fr.snoc X312 N311 g_b308
    have Z312 : n0 ≤ h312.size := Nat.le_trans Z311 (Keep.of_wr W312).1
    show Go _ _ _ _ _ _ _ T312 (mkF m 117 #[.val (.int ish), .val (.int ind), .val (.int iln), .val (.int ie0), .val (.int ie1), .val (.int ie2), .val (.int vp3), .val (.int vp4), .val (.int (1 : Int32)), .val (.int vn), .val (.int (2 : Int32)), .val (.int (1 : Int32)), .val (.int (0 : Int32)), .val (.ref b301), .val (.ref b308), .unset, .unset, .unset, .unset, .unset, .unset, .unset, .unset, .unset, .unset, .unset] [])
    refine Go.step (fun _ k => XS.iconst X312.here hx rfl (hb hby at_117) k) ?_
    have f314 : Arv Z h312 b301 k301 .int (5 : Int32) [(.int (-1 : Int32)), (.int (-1 : Int32)), (.int (2 : Int32)), (.int (1 : Int32)), (.int (0 : Int32))] (.int (0 : Int32)) := ((((V307.ext E308).other W310 ne_b301_b308).other W311 ne_b301_b308).other W312 ne_b301_b308)
    obtain ⟨T313, h313, k313, X313, e313, E313, A313, st313⟩ := newP X312 hx hZ (hw _ (List.mem_of_getElem? (i := 6) rfl)) e312 (g := (mkF m 118 #[.val (.int ish), .val (.int ind), .val (.int iln), .val (.int ie0), .val (.int ie1), .val (.int ie2), .val (.int vp3), .val (.int vp4), .val (.int (1 : Int32)), .val (.int vn), .val (.int (2 : Int32)), .val (.int (1 : Int32)), .val (.int (0 : Int32)), .val (.ref b301), .val (.ref b308), .unset, .unset, .unset, .unset, .unset, .unset, .unset, .unset, .unset, .unset, .unset] [(.int (5 : Int32))])) rfl (hb hby at_118) rfl (by decide) (cap := 5) (by decide) (by decide) (by decide) (by decide)
    obtain ⟨b313, g313⟩ : ∃ z, z = h312.size := ⟨_, rfl⟩
    rw [← g313] at A313 st313
    refine Go.step st313 ?_
    have g_b313 : n0 ≤ b313 := Nat.le_trans Z312 (Nat.le_of_eq g313.symm)
    have ne_b301_b313 : b301 ≠ b313 := Nat.ne_of_lt (Nat.lt_of_lt_of_le f314.lt (Nat.le_of_eq g313.symm))
    have ne_b308_b313 : b308 ≠ b313 := Nat.ne_of_lt (Nat.lt_of_lt_of_le V312.lt (Nat.le_of_eq g313.symm))
    have Z313 : n0 ≤ h313.size := Nat.le_trans Z312 E313.1
    have V313 : Arv Z h313 b313 k313 .double (5 : Int32) [] (.double (0 : UInt64)) := Arv.new A313 (by decide)
    have V315 : Arv Z h313 b313 k313 .double (5 : Int32) [(.double (0 : UInt64)), (.double (0 : UInt64)), (.double (0 : UInt64)), (.double (0 : UInt64)), (.double (0 : UInt64))] (.double (0 : UInt64)) := (V313).pad (pad_rep [] (.double (0 : UInt64)) 5)
    show Go _ _ _ _ _ _ _ T313 (mkF m 120 #[.val (.int ish), .val (.int ind), .val (.int iln), .val (.int ie0), .val (.int ie1), .val (.int ie2), .val (.int vp3), .val (.int vp4), .val (.int (1 : Int32)), .val (.int vn), .val (.int (2 : Int32)), .val (.int (1 : Int32)), .val (.int (0 : Int32)), .val (.ref b301), .val (.ref b308), .unset, .unset, .unset, .unset, .unset, .unset, .unset, .unset, .unset, .unset, .unset] [(.ref b313)])
    refine Go.step (fun _ k => XS.dup X313.here hx rfl (hb hby at_120) rfl rfl k) ?_
    refine Go.step (fun _ k => XS.iconst X313.here hx rfl (hb hby at_121) k) ?_
    refine Go.step (fun _ k => XS.dconst0 X313.here hx rfl (v := (0 : UInt64)) (hb hby at_122) (by decide +kernel) k) ?_
    obtain ⟨cl316, Ar316, q316, S316, M316, H316, G316⟩ := id (V315)
    have hin316 : ¬ ((0 : Int32) < 0 ∨ cl316.slots.size ≤ ((0 : Int32)).toNatClampNeg) := inb_of S316 ⟨by decide, by decide⟩
    obtain ⟨T316, h316, X316, e316, W316, st316⟩ := stD X313 hx hZ e313 Ar316 (j := (0 : Int32)) hin316 (g := (mkF m 123 #[.val (.int ish), .val (.int ind), .val (.int iln), .val (.int ie0), .val (.int ie1), .val (.int ie2), .val (.int vp3), .val (.int vp4), .val (.int (1 : Int32)), .val (.int vn), .val (.int (2 : Int32)), .val (.int (1 : Int32)), .val (.int (0 : Int32)), .val (.ref b301), .val (.ref b308), .unset, .unset, .unset, .unset, .unset, .unset, .unset, .unset, .unset, .unset, .unset] [(.double (0 : UInt64)), (.int (0 : Int32)), (.ref b313), (.ref b313)])) rfl rfl (hb hby at_123)
    refine Go.step st316 ?_
    have V316 : Arv Z h316 b313 k313 .double (5 : Int32) [(.double (0 : UInt64)), (.double (0 : UInt64)), (.double (0 : UInt64)), (.double (0 : UInt64)), (.double (0 : UInt64))] (.double (0 : UInt64)) := Arv.set Ar316 q316 S316 M316 H316 G316 rfl W316 0 rfl (Nat.le_of_ble_eq_true rfl)
    have N316 := Fr.snoc X316 N312 g_b313
    have Z316 : n0 ≤ h316.size := Nat.le_trans Z313 (Keep.of_wr W316).1
    show Go _ _ _ _ _ _ _ T316 (mkF m 124 #[.val (.int ish), .val (.int ind), .val (.int iln), .val (.int ie0), .val (.int ie1), .val (.int ie2), .val (.int vp3), .val (.int vp4), .val (.int (1 : Int32)), .val (.int vn), .val (.int (2 : Int32)), .val (.int (1 : Int32)), .val (.int (0 : Int32)), .val (.ref b301), .val (.ref b308), .unset, .unset, .unset, .unset, .unset, .unset, .unset, .unset, .unset, .unset, .unset] [(.ref b313)])
    refine Go.step (fun _ k => XS.dup X316.here hx rfl (hb hby at_124) rfl rfl k) ?_
    refine Go.step (fun _ k => XS.iconst X316.here hx rfl (hb hby at_125) k) ?_
    refine Go.step (fun _ k => XS.dconst0 X316.here hx rfl (v := (0 : UInt64)) (hb hby at_126) (by decide +kernel) k) ?_
    obtain ⟨cl317, Ar317, q317, S317, M317, H317, G317⟩ := id (V316)
    have hin317 : ¬ ((1 : Int32) < 0 ∨ cl317.slots.size ≤ ((1 : Int32)).toNatClampNeg) := inb_of S317 ⟨by decide, by decide⟩
    obtain ⟨T317, h317, X317, e317, W317, st317⟩ := stD X316 hx hZ e316 Ar317 (j := (1 : Int32)) hin317 (g := (mkF m 127 #[.val (.int ish), .val (.int ind), .val (.int iln), .val (.int ie0), .val (.int ie1), .val (.int ie2), .val (.int vp3), .val (.int vp4), .val (.int (1 : Int32)), .val (.int vn), .val (.int (2 : Int32)), .val (.int (1 : Int32)), .val (.int (0 : Int32)), .val (.ref b301), .val (.ref b308), .unset, .unset, .unset, .unset, .unset, .unset, .unset, .unset, .unset, .unset, .unset] [(.double (0 : UInt64)), (.int (1 : Int32)), (.ref b313), (.ref b313)])) rfl rfl (hb hby at_127)
    refine Go.step st317 ?_
    have V317 : Arv Z h317 b313 k313 .double (5 : Int32) [(.double (0 : UInt64)), (.double (0 : UInt64)), (.double (0 : UInt64)), (.double (0 : UInt64)), (.double (0 : UInt64))] (.double (0 : UInt64)) := Arv.set Ar317 q317 S317 M317 H317 G317 rfl W317 1 rfl (Nat.le_of_ble_eq_true rfl)
    have N317 := Fr.snoc X317 N316 g_b313
    have Z317 : n0 ≤ h317.size := Nat.le_trans Z316 (Keep.of_wr W317).1
    show Go _ _ _ _ _ _ _ T317 (mkF m 128 #[.val (.int ish), .val (.int ind), .val (.int iln), .val (.int ie0), .val (.int ie1), .val (.int ie2), .val (.int vp3), .val (.int vp4), .val (.int (1 : Int32)), .val (.int vn), .val (.int (2 : Int32)), .val (.int (1 : Int32)), .val (.int (0 : Int32)), .val (.ref b301), .val (.ref b308), .unset, .unset, .unset, .unset, .unset, .unset, .unset, .unset, .unset, .unset, .unset] [(.ref b313)])
    refine Go.step (fun _ k => XS.dup X317.here hx rfl (hb hby at_128) rfl rfl k) ?_
    refine Go.step (fun _ k => XS.iconst X317.here hx rfl (hb hby at_129) k) ?_
    refine Go.step (fun _ k => XS.dconst1 X317.here hx rfl (v := (4607182418800017408 : UInt64)) (hb hby at_130) (by decide +kernel) k) ?_
    obtain ⟨cl318, Ar318, q318, S318, M318, H318, G318⟩ := id (V317)
    have hin318 : ¬ ((2 : Int32) < 0 ∨ cl318.slots.size ≤ ((2 : Int32)).toNatClampNeg) := inb_of S318 ⟨by decide, by decide⟩
    obtain ⟨T318, h318, X318, e318, W318, st318⟩ := stD X317 hx hZ e317 Ar318 (j := (2 : Int32)) hin318 (g := (mkF m 131 #[.val (.int ish), .val (.int ind), .val (.int iln), .val (.int ie0), .val (.int ie1), .val (.int ie2), .val (.int vp3), .val (.int vp4), .val (.int (1 : Int32)), .val (.int vn), .val (.int (2 : Int32)), .val (.int (1 : Int32)), .val (.int (0 : Int32)), .val (.ref b301), .val (.ref b308), .unset, .unset, .unset, .unset, .unset, .unset, .unset, .unset, .unset, .unset, .unset] [(.double (4607182418800017408 : UInt64)), (.int (2 : Int32)), (.ref b313), (.ref b313)])) rfl rfl (hb hby at_131)
    refine Go.step st318 ?_
    have V318 : Arv Z h318 b313 k313 .double (5 : Int32) [(.double (0 : UInt64)), (.double (0 : UInt64)), (.double (4607182418800017408 : UInt64)), (.double (0 : UInt64)), (.double (0 : UInt64))] (.double (0 : UInt64)) := Arv.set Ar318 q318 S318 M318 H318 G318 rfl W318 2 rfl (Nat.le_of_ble_eq_true rfl)
    have N318 := Fr.snoc X318 N317 g_b313
    have Z318 : n0 ≤ h318.size := Nat.le_trans Z317 (Keep.of_wr W318).1
    show Go _ _ _ _ _ _ _ T318 (mkF m 132 #[.val (.int ish), .val (.int ind), .val (.int iln), .val (.int ie0), .val (.int ie1), .val (.int ie2), .val (.int vp3), .val (.int vp4), .val (.int (1 : Int32)), .val (.int vn), .val (.int (2 : Int32)), .val (.int (1 : Int32)), .val (.int (0 : Int32)), .val (.ref b301), .val (.ref b308), .unset, .unset, .unset, .unset, .unset, .unset, .unset, .unset, .unset, .unset, .unset] [(.ref b313)])
    refine Go.step (fun _ k => XS.dup X318.here hx rfl (hb hby at_132) rfl rfl k) ?_
    refine Go.step (fun _ k => XS.iconst X318.here hx rfl (hb hby at_133) k) ?_
    refine Go.step (X318.ldc2DoubleC hx hown (mvT hZ (hw _ (List.mem_of_getElem? (i := 7) rfl))) (g := (mkF m 134 #[.val (.int ish), .val (.int ind), .val (.int iln), .val (.int ie0), .val (.int ie1), .val (.int ie2), .val (.int vp3), .val (.int vp4), .val (.int (1 : Int32)), .val (.int vn), .val (.int (2 : Int32)), .val (.int (1 : Int32)), .val (.int (0 : Int32)), .val (.ref b301), .val (.ref b308), .unset, .unset, .unset, .unset, .unset, .unset, .unset, .unset, .unset, .unset, .unset] [(.int (3 : Int32)), (.ref b313), (.ref b313)])) rfl (hb hby at_134)) ?_
    show Go _ _ _ _ _ _ _ T318 (mkF m 137 #[.val (.int ish), .val (.int ind), .val (.int iln), .val (.int ie0), .val (.int ie1), .val (.int ie2), .val (.int vp3), .val (.int vp4), .val (.int (1 : Int32)), .val (.int vn), .val (.int (2 : Int32)), .val (.int (1 : Int32)), .val (.int (0 : Int32)), .val (.ref b301), .val (.ref b308), .unset, .unset, .unset, .unset, .unset, .unset, .unset, .unset, .unset, .unset, .unset] [(.double (4611686018427387904 : UInt64)), (.int (3 : Int32)), (.ref b313), (.ref b313)])
    obtain ⟨cl319, Ar319, q319, S319, M319, H319, G319⟩ := id (V318)
    have hin319 : ¬ ((3 : Int32) < 0 ∨ cl319.slots.size ≤ ((3 : Int32)).toNatClampNeg) := inb_of S319 ⟨by decide, by decide⟩
    obtain ⟨T319, h319, X319, e319, W319, st319⟩ := stD X318 hx hZ e318 Ar319 (j := (3 : Int32)) hin319 (g := (mkF m 137 #[.val (.int ish), .val (.int ind), .val (.int iln), .val (.int ie0), .val (.int ie1), .val (.int ie2), .val (.int vp3), .val (.int vp4), .val (.int (1 : Int32)), .val (.int vn), .val (.int (2 : Int32)), .val (.int (1 : Int32)), .val (.int (0 : Int32)), .val (.ref b301), .val (.ref b308), .unset, .unset, .unset, .unset, .unset, .unset, .unset, .unset, .unset, .unset, .unset] [(.double (4611686018427387904 : UInt64)), (.int (3 : Int32)), (.ref b313), (.ref b313)])) rfl rfl (hb hby at_137)
    refine Go.step st319 ?_
    have V319 : Arv Z h319 b313 k313 .double (5 : Int32) [(.double (0 : UInt64)), (.double (0 : UInt64)), (.double (4607182418800017408 : UInt64)), (.double (4611686018427387904 : UInt64)), (.double (0 : UInt64))] (.double (0 : UInt64)) := Arv.set Ar319 q319 S319 M319 H319 G319 rfl W319 3 rfl (Nat.le_of_ble_eq_true rfl)
    have N319 := Fr.snoc X319 N318 g_b313
    have Z319 : n0 ≤ h319.size := Nat.le_trans Z318 (Keep.of_wr W319).1
    show Go _ _ _ _ _ _ _ T319 (mkF m 138 #[.val (.int ish), .val (.int ind), .val (.int iln), .val (.int ie0), .val (.int ie1), .val (.int ie2), .val (.int vp3), .val (.int vp4), .val (.int (1 : Int32)), .val (.int vn), .val (.int (2 : Int32)), .val (.int (1 : Int32)), .val (.int (0 : Int32)), .val (.ref b301), .val (.ref b308), .unset, .unset, .unset, .unset, .unset, .unset, .unset, .unset, .unset, .unset, .unset] [(.ref b313)])
    refine Go.step (fun _ k => XS.dup X319.here hx rfl (hb hby at_138) rfl rfl k) ?_
    refine Go.step (fun _ k => XS.iconst X319.here hx rfl (hb hby at_139) k) ?_
    refine Go.step (X319.ldc2DoubleC hx hown (mvT hZ (hw _ (List.mem_of_getElem? (i := 8) rfl))) (g := (mkF m 140 #[.val (.int ish), .val (.int ind), .val (.int iln), .val (.int ie0), .val (.int ie1), .val (.int ie2), .val (.int vp3), .val (.int vp4), .val (.int (1 : Int32)), .val (.int vn), .val (.int (2 : Int32)), .val (.int (1 : Int32)), .val (.int (0 : Int32)), .val (.ref b301), .val (.ref b308), .unset, .unset, .unset, .unset, .unset, .unset, .unset, .unset, .unset, .unset, .unset] [(.int (4 : Int32)), (.ref b313), (.ref b313)])) rfl (hb hby at_140)) ?_
    show Go _ _ _ _ _ _ _ T319 (mkF m 143 #[.val (.int ish), .val (.int ind), .val (.int iln), .val (.int ie0), .val (.int ie1), .val (.int ie2), .val (.int vp3), .val (.int vp4), .val (.int (1 : Int32)), .val (.int vn), .val (.int (2 : Int32)), .val (.int (1 : Int32)), .val (.int (0 : Int32)), .val (.ref b301), .val (.ref b308), .unset, .unset, .unset, .unset, .unset, .unset, .unset, .unset, .unset, .unset, .unset] [(.double (4613937818241073152 : UInt64)), (.int (4 : Int32)), (.ref b313), (.ref b313)])
    obtain ⟨cl320, Ar320, q320, S320, M320, H320, G320⟩ := id (V319)
    have hin320 : ¬ ((4 : Int32) < 0 ∨ cl320.slots.size ≤ ((4 : Int32)).toNatClampNeg) := inb_of S320 ⟨by decide, by decide⟩
    obtain ⟨T320, h320, X320, e320, W320, st320⟩ := stD X319 hx hZ e319 Ar320 (j := (4 : Int32)) hin320 (g := (mkF m 143 #[.val (.int ish), .val (.int ind), .val (.int iln), .val (.int ie0), .val (.int ie1), .val (.int ie2), .val (.int vp3), .val (.int vp4), .val (.int (1 : Int32)), .val (.int vn), .val (.int (2 : Int32)), .val (.int (1 : Int32)), .val (.int (0 : Int32)), .val (.ref b301), .val (.ref b308), .unset, .unset, .unset, .unset, .unset, .unset, .unset, .unset, .unset, .unset, .unset] [(.double (4613937818241073152 : UInt64)), (.int (4 : Int32)), (.ref b313), (.ref b313)])) rfl rfl (hb hby at_143)
    refine Go.step st320 ?_
    have V320 : Arv Z h320 b313 k313 .double (5 : Int32) [(.double (0 : UInt64)), (.double (0 : UInt64)), (.double (4607182418800017408 : UInt64)), (.double (4611686018427387904 : UInt64)), (.double (4613937818241073152 : UInt64))] (.double (0 : UInt64)) := Arv.set Ar320 q320 S320 M320 H320 G320 rfl W320 4 rfl (Nat.le_of_ble_eq_true rfl)
    have N320 := Fr.snoc X320 N319 g_b313
    have Z320 : n0 ≤ h320.size := Nat.le_trans Z319 (Keep.of_wr W320).1
    show Go _ _ _ _ _ _ _ T320 (mkF m 144 #[.val (.int ish), .val (.int ind), .val (.int iln), .val (.int ie0), .val (.int ie1), .val (.int ie2), .val (.int vp3), .val (.int vp4), .val (.int (1 : Int32)), .val (.int vn), .val (.int (2 : Int32)), .val (.int (1 : Int32)), .val (.int (0 : Int32)), .val (.ref b301), .val (.ref b308), .unset, .unset, .unset, .unset, .unset, .unset, .unset, .unset, .unset, .unset, .unset] [(.ref b313)])
    refine Go.step (fun _ k => XS.astore X320.here hx rfl (hb hby at_144) rfl rfl (l' := #[.val (.int ish), .val (.int ind), .val (.int iln), .val (.int ie0), .val (.int ie1), .val (.int ie2), .val (.int vp3), .val (.int vp4), .val (.int (1 : Int32)), .val (.int vn), .val (.int (2 : Int32)), .val (.int (1 : Int32)), .val (.int (0 : Int32)), .val (.ref b301), .val (.ref b308), .val (.ref b313), .unset, .unset, .unset, .unset, .unset, .unset, .unset, .unset, .unset, .unset]) rfl k) ?_
    show Go _ _ _ _ _ _ _ T320 (mkF m 146 #[.val (.int ish), .val (.int ind), .val (.int iln), .val (.int ie0), .val (.int ie1), .val (.int ie2), .val (.int vp3), .val (.int vp4), .val (.int (1 : Int32)), .val (.int vn), .val (.int (2 : Int32)), .val (.int (1 : Int32)), .val (.int (0 : Int32)), .val (.ref b301), .val (.ref b308), .val (.ref b313), .unset, .unset, .unset, .unset, .unset, .unset, .unset, .unset, .unset, .unset] [])
    refine Go.step (fun _ k => XS.iconst X320.here hx rfl (hb hby at_146) k) ?_
    have f322 : Arv Z h320 b301 k301 .int (5 : Int32) [(.int (-1 : Int32)), (.int (-1 : Int32)), (.int (2 : Int32)), (.int (1 : Int32)), (.int (0 : Int32))] (.int (0 : Int32)) := ((((((f314.ext E313).other W316 ne_b301_b313).other W317 ne_b301_b313).other W318 ne_b301_b313).other W319 ne_b301_b313).other W320 ne_b301_b313)
    have f323 : Arv Z h320 b308 k308 .int (3 : Int32) [(.int vp4), (.int vp3), (.int (1 : Int32))] (.int (0 : Int32)) := ((((((V312.ext E313).other W316 ne_b308_b313).other W317 ne_b308_b313).other W318 ne_b308_b313).other W319 ne_b308_b313).other W320 ne_b308_b313)
    obtain ⟨T321, h321, k321, X321, e321, E321, A321, st321⟩ := newP X320 hx hZ (hw _ (List.mem_of_getElem? (i := 5) rfl)) e320 (g := (mkF m 147 #[.val (.int ish), .val (.int ind), .val (.int iln), .val (.int ie0), .val (.int ie1), .val (.int ie2), .val (.int vp3), .val (.int vp4), .val (.int (1 : Int32)), .val (.int vn), .val (.int (2 : Int32)), .val (.int (1 : Int32)), .val (.int (0 : Int32)), .val (.ref b301), .val (.ref b308), .val (.ref b313), .unset, .unset, .unset, .unset, .unset, .unset, .unset, .unset, .unset, .unset] [(.int (4 : Int32))])) rfl (hb hby at_147) rfl (by decide) (cap := 4) (by decide) (by decide) (by decide) (by decide)
    obtain ⟨b321, g321⟩ : ∃ z, z = h320.size := ⟨_, rfl⟩
    rw [← g321] at A321 st321
    refine Go.step st321 ?_
    have g_b321 : n0 ≤ b321 := Nat.le_trans Z320 (Nat.le_of_eq g321.symm)
    have ne_b301_b321 : b301 ≠ b321 := Nat.ne_of_lt (Nat.lt_of_lt_of_le f322.lt (Nat.le_of_eq g321.symm))
    have ne_b308_b321 : b308 ≠ b321 := Nat.ne_of_lt (Nat.lt_of_lt_of_le f323.lt (Nat.le_of_eq g321.symm))
    have ne_b313_b321 : b313 ≠ b321 := Nat.ne_of_lt (Nat.lt_of_lt_of_le V320.lt (Nat.le_of_eq g321.symm))
    have Z321 : n0 ≤ h321.size := Nat.le_trans Z320 E321.1
    have V321 : Arv Z h321 b321 k321 .int (4 : Int32) [] (.int (0 : Int32)) := Arv.new A321 (by decide)
    have V324 : Arv Z h321 b321 k321 .int (4 : Int32) [(.int (0 : Int32)), (.int (0 : Int32)), (.int (0 : Int32)), (.int (0 : Int32))] (.int (0 : Int32)) := (V321).pad (pad_rep [] (.int (0 : Int32)) 4)
    show Go _ _ _ _ _ _ _ T321 (mkF m 149 #[.val (.int ish), .val (.int ind), .val (.int iln), .val (.int ie0), .val (.int ie1), .val (.int ie2), .val (.int vp3), .val (.int vp4), .val (.int (1 : Int32)), .val (.int vn), .val (.int (2 : Int32)), .val (.int (1 : Int32)), .val (.int (0 : Int32)), .val (.ref b301), .val (.ref b308), .val (.ref b313), .unset, .unset, .unset, .unset, .unset, .unset, .unset, .unset, .unset, .unset] [(.ref b321)])
    refine Go.step (fun _ k => XS.dup X321.here hx rfl (hb hby at_149) rfl rfl k) ?_
    refine Go.step (fun _ k => XS.iconst X321.here hx rfl (hb hby at_150) k) ?_
    refine Go.step (fun _ k => XS.iconst X321.here hx rfl (hb hby at_151) k) ?_
    obtain ⟨cl325, Ar325, q325, S325, M325, H325, G325⟩ := id (V324)
    have hin325 : ¬ ((0 : Int32) < 0 ∨ cl325.slots.size ≤ ((0 : Int32)).toNatClampNeg) := inb_of S325 ⟨by decide, by decide⟩
    obtain ⟨T325, h325, X325, e325, W325, st325⟩ := stI X321 hx hZ e321 Ar325 (j := (0 : Int32)) hin325 (g := (mkF m 152 #[.val (.int ish), .val (.int ind), .val (.int iln), .val (.int ie0), .val (.int ie1), .val (.int ie2), .val (.int vp3), .val (.int vp4), .val (.int (1 : Int32)), .val (.int vn), .val (.int (2 : Int32)), .val (.int (1 : Int32)), .val (.int (0 : Int32)), .val (.ref b301), .val (.ref b308), .val (.ref b313), .unset, .unset, .unset, .unset, .unset, .unset, .unset, .unset, .unset, .unset] [(.int (1 : Int32)), (.int (0 : Int32)), (.ref b321), (.ref b321)])) rfl rfl (hb hby at_152)
    refine Go.step st325 ?_
    have V325 : Arv Z h325 b321 k321 .int (4 : Int32) [(.int (1 : Int32)), (.int (0 : Int32)), (.int (0 : Int32)), (.int (0 : Int32))] (.int (0 : Int32)) := Arv.set Ar325 q325 S325 M325 H325 G325 rfl W325 0 rfl (Nat.le_of_ble_eq_true rfl)
    have N325 := Fr.snoc X325 N320 g_b321
    have Z325 : n0 ≤ h325.size := Nat.le_trans Z321 (Keep.of_wr W325).1
    show Go _ _ _ _ _ _ _ T325 (mkF m 153 #[.val (.int ish), .val (.int ind), .val (.int iln), .val (.int ie0), .val (.int ie1), .val (.int ie2), .val (.int vp3), .val (.int vp4), .val (.int (1 : Int32)), .val (.int vn), .val (.int (2 : Int32)), .val (.int (1 : Int32)), .val (.int (0 : Int32)), .val (.ref b301), .val (.ref b308), .val (.ref b313), .unset, .unset, .unset, .unset, .unset, .unset, .unset, .unset, .unset, .unset] [(.ref b321)])
    refine Go.step (fun _ k => XS.dup X325.here hx rfl (hb hby at_153) rfl rfl k) ?_
    refine Go.step (fun _ k => XS.iconst X325.here hx rfl (hb hby at_154) k) ?_
    refine Go.step (fun _ k => XS.iconst X325.here hx rfl (hb hby at_155) k) ?_
    obtain ⟨cl326, Ar326, q326, S326, M326, H326, G326⟩ := id (V325)
    have hin326 : ¬ ((1 : Int32) < 0 ∨ cl326.slots.size ≤ ((1 : Int32)).toNatClampNeg) := inb_of S326 ⟨by decide, by decide⟩
    obtain ⟨T326, h326, X326, e326, W326, st326⟩ := stI X325 hx hZ e325 Ar326 (j := (1 : Int32)) hin326 (g := (mkF m 156 #[.val (.int ish), .val (.int ind), .val (.int iln), .val (.int ie0), .val (.int ie1), .val (.int ie2), .val (.int vp3), .val (.int vp4), .val (.int (1 : Int32)), .val (.int vn), .val (.int (2 : Int32)), .val (.int (1 : Int32)), .val (.int (0 : Int32)), .val (.ref b301), .val (.ref b308), .val (.ref b313), .unset, .unset, .unset, .unset, .unset, .unset, .unset, .unset, .unset, .unset] [(.int (2 : Int32)), (.int (1 : Int32)), (.ref b321), (.ref b321)])) rfl rfl (hb hby at_156)
    refine Go.step st326 ?_
    have V326 : Arv Z h326 b321 k321 .int (4 : Int32) [(.int (1 : Int32)), (.int (2 : Int32)), (.int (0 : Int32)), (.int (0 : Int32))] (.int (0 : Int32)) := Arv.set Ar326 q326 S326 M326 H326 G326 rfl W326 1 rfl (Nat.le_of_ble_eq_true rfl)
    have N326 := Fr.snoc X326 N325 g_b321
    have Z326 : n0 ≤ h326.size := Nat.le_trans Z325 (Keep.of_wr W326).1
    show Go _ _ _ _ _ _ _ T326 (mkF m 157 #[.val (.int ish), .val (.int ind), .val (.int iln), .val (.int ie0), .val (.int ie1), .val (.int ie2), .val (.int vp3), .val (.int vp4), .val (.int (1 : Int32)), .val (.int vn), .val (.int (2 : Int32)), .val (.int (1 : Int32)), .val (.int (0 : Int32)), .val (.ref b301), .val (.ref b308), .val (.ref b313), .unset, .unset, .unset, .unset, .unset, .unset, .unset, .unset, .unset, .unset] [(.ref b321)])
    refine Go.step (fun _ k => XS.dup X326.here hx rfl (hb hby at_157) rfl rfl k) ?_
    refine Go.step (fun _ k => XS.iconst X326.here hx rfl (hb hby at_158) k) ?_
    refine Go.step (fun _ k => XS.iconst X326.here hx rfl (hb hby at_159) k) ?_
    obtain ⟨cl327, Ar327, q327, S327, M327, H327, G327⟩ := id (V326)
    have hin327 : ¬ ((2 : Int32) < 0 ∨ cl327.slots.size ≤ ((2 : Int32)).toNatClampNeg) := inb_of S327 ⟨by decide, by decide⟩
    obtain ⟨T327, h327, X327, e327, W327, st327⟩ := stI X326 hx hZ e326 Ar327 (j := (2 : Int32)) hin327 (g := (mkF m 160 #[.val (.int ish), .val (.int ind), .val (.int iln), .val (.int ie0), .val (.int ie1), .val (.int ie2), .val (.int vp3), .val (.int vp4), .val (.int (1 : Int32)), .val (.int vn), .val (.int (2 : Int32)), .val (.int (1 : Int32)), .val (.int (0 : Int32)), .val (.ref b301), .val (.ref b308), .val (.ref b313), .unset, .unset, .unset, .unset, .unset, .unset, .unset, .unset, .unset, .unset] [(.int (3 : Int32)), (.int (2 : Int32)), (.ref b321), (.ref b321)])) rfl rfl (hb hby at_160)
    refine Go.step st327 ?_
    have V327 : Arv Z h327 b321 k321 .int (4 : Int32) [(.int (1 : Int32)), (.int (2 : Int32)), (.int (3 : Int32)), (.int (0 : Int32))] (.int (0 : Int32)) := Arv.set Ar327 q327 S327 M327 H327 G327 rfl W327 2 rfl (Nat.le_of_ble_eq_true rfl)
    have N327 := Fr.snoc X327 N326 g_b321
    have Z327 : n0 ≤ h327.size := Nat.le_trans Z326 (Keep.of_wr W327).1
    show Go _ _ _ _ _ _ _ T327 (mkF m 161 #[.val (.int ish), .val (.int ind), .val (.int iln), .val (.int ie0), .val (.int ie1), .val (.int ie2), .val (.int vp3), .val (.int vp4), .val (.int (1 : Int32)), .val (.int vn), .val (.int (2 : Int32)), .val (.int (1 : Int32)), .val (.int (0 : Int32)), .val (.ref b301), .val (.ref b308), .val (.ref b313), .unset, .unset, .unset, .unset, .unset, .unset, .unset, .unset, .unset, .unset] [(.ref b321)])
    refine Go.step (fun _ k => XS.dup X327.here hx rfl (hb hby at_161) rfl rfl k) ?_
    refine Go.step (fun _ k => XS.iconst X327.here hx rfl (hb hby at_162) k) ?_
    refine Go.step (fun _ k => XS.iconst X327.here hx rfl (hb hby at_163) k) ?_
    obtain ⟨cl328, Ar328, q328, S328, M328, H328, G328⟩ := id (V327)
    have hin328 : ¬ ((3 : Int32) < 0 ∨ cl328.slots.size ≤ ((3 : Int32)).toNatClampNeg) := inb_of S328 ⟨by decide, by decide⟩
    obtain ⟨T328, h328, X328, e328, W328, st328⟩ := stI X327 hx hZ e327 Ar328 (j := (3 : Int32)) hin328 (g := (mkF m 164 #[.val (.int ish), .val (.int ind), .val (.int iln), .val (.int ie0), .val (.int ie1), .val (.int ie2), .val (.int vp3), .val (.int vp4), .val (.int (1 : Int32)), .val (.int vn), .val (.int (2 : Int32)), .val (.int (1 : Int32)), .val (.int (0 : Int32)), .val (.ref b301), .val (.ref b308), .val (.ref b313), .unset, .unset, .unset, .unset, .unset, .unset, .unset, .unset, .unset, .unset] [(.int (4 : Int32)), (.int (3 : Int32)), (.ref b321), (.ref b321)])) rfl rfl (hb hby at_164)
    refine Go.step st328 ?_
    have V328 : Arv Z h328 b321 k321 .int (4 : Int32) [(.int (1 : Int32)), (.int (2 : Int32)), (.int (3 : Int32)), (.int (4 : Int32))] (.int (0 : Int32)) := Arv.set Ar328 q328 S328 M328 H328 G328 rfl W328 3 rfl (Nat.le_of_ble_eq_true rfl)
    have N328 := Fr.snoc X328 N327 g_b321
    have Z328 : n0 ≤ h328.size := Nat.le_trans Z327 (Keep.of_wr W328).1
    show Go _ _ _ _ _ _ _ T328 (mkF m 165 #[.val (.int ish), .val (.int ind), .val (.int iln), .val (.int ie0), .val (.int ie1), .val (.int ie2), .val (.int vp3), .val (.int vp4), .val (.int (1 : Int32)), .val (.int vn), .val (.int (2 : Int32)), .val (.int (1 : Int32)), .val (.int (0 : Int32)), .val (.ref b301), .val (.ref b308), .val (.ref b313), .unset, .unset, .unset, .unset, .unset, .unset, .unset, .unset, .unset, .unset] [(.ref b321)])
    refine Go.step (fun _ k => XS.astore X328.here hx rfl (hb hby at_165) rfl rfl (l' := #[.val (.int ish), .val (.int ind), .val (.int iln), .val (.int ie0), .val (.int ie1), .val (.int ie2), .val (.int vp3), .val (.int vp4), .val (.int (1 : Int32)), .val (.int vn), .val (.int (2 : Int32)), .val (.int (1 : Int32)), .val (.int (0 : Int32)), .val (.ref b301), .val (.ref b308), .val (.ref b313), .val (.ref b321), .unset, .unset, .unset, .unset, .unset, .unset, .unset, .unset, .unset]) rfl k) ?_
    show Go _ _ _ _ _ _ _ T328 (mkF m 167 #[.val (.int ish), .val (.int ind), .val (.int iln), .val (.int ie0), .val (.int ie1), .val (.int ie2), .val (.int vp3), .val (.int vp4), .val (.int (1 : Int32)), .val (.int vn), .val (.int (2 : Int32)), .val (.int (1 : Int32)), .val (.int (0 : Int32)), .val (.ref b301), .val (.ref b308), .val (.ref b313), .val (.ref b321), .unset, .unset, .unset, .unset, .unset, .unset, .unset, .unset, .unset] [])
    have f330 : Arv Z h328 b301 k301 .int (5 : Int32) [(.int (-1 : Int32)), (.int (-1 : Int32)), (.int (2 : Int32)), (.int (1 : Int32)), (.int (0 : Int32))] (.int (0 : Int32)) := (((((f322.ext E321).other W325 ne_b301_b321).other W326 ne_b301_b321).other W327 ne_b301_b321).other W328 ne_b301_b321)
    have f331 : Arv Z h328 b308 k308 .int (3 : Int32) [(.int vp4), (.int vp3), (.int (1 : Int32))] (.int (0 : Int32)) := (((((f323.ext E321).other W325 ne_b308_b321).other W326 ne_b308_b321).other W327 ne_b308_b321).other W328 ne_b308_b321)
    have f332 : Arv Z h328 b313 k313 .double (5 : Int32) [(.double (0 : UInt64)), (.double (0 : UInt64)), (.double (4607182418800017408 : UInt64)), (.double (4611686018427387904 : UInt64)), (.double (4613937818241073152 : UInt64))] (.double (0 : UInt64)) := (((((V320.ext E321).other W325 ne_b313_b321).other W326 ne_b313_b321).other W327 ne_b313_b321).other W328 ne_b313_b321)
    obtain ⟨T329, h329, X329, e329, E329, A329, D329, -, st329⟩ := newO X328 hx hZ hown (hw _ (List.mem_of_getElem? (i := 9) rfl)) (hw _ (List.mem_of_getElem? (i := 10) rfl)) (hw _ (List.mem_of_getElem? (i := 11) rfl)) e328 (g := (mkF m 167 #[.val (.int ish), .val (.int ind), .val (.int iln), .val (.int ie0), .val (.int ie1), .val (.int ie2), .val (.int vp3), .val (.int vp4), .val (.int (1 : Int32)), .val (.int vn), .val (.int (2 : Int32)), .val (.int (1 : Int32)), .val (.int (0 : Int32)), .val (.ref b301), .val (.ref b308), .val (.ref b313), .val (.ref b321), .unset, .unset, .unset, .unset, .unset, .unset, .unset, .unset, .unset] [])) rfl (hb hby at_167) (by decide) (by decide)
    obtain ⟨b329, g329⟩ : ∃ z, z = h328.size := ⟨_, rfl⟩
    rw [← g329] at A329 D329 st329
    refine Go.step st329 ?_
    have g_b329 : n0 ≤ b329 := Nat.le_trans Z328 (Nat.le_of_eq g329.symm)
    have ne_b301_b329 : b301 ≠ b329 := Nat.ne_of_lt (Nat.lt_of_lt_of_le f330.lt (Nat.le_of_eq g329.symm))
    have ne_b308_b329 : b308 ≠ b329 := Nat.ne_of_lt (Nat.lt_of_lt_of_le f331.lt (Nat.le_of_eq g329.symm))
    have ne_b313_b329 : b313 ≠ b329 := Nat.ne_of_lt (Nat.lt_of_lt_of_le f332.lt (Nat.le_of_eq g329.symm))
    have ne_b321_b329 : b321 ≠ b329 := Nat.ne_of_lt (Nat.lt_of_lt_of_le V328.lt (Nat.le_of_eq g329.symm))
    have Z329 : n0 ≤ h329.size := Nat.le_trans Z328 E329.1
    have Forigin_329 : Fld Z h329 b329 "com/example/wayfront/wayfront/paths/ShortestPathTree" "origin" "I" (.int (0 : Int32)) := D329 (Or.inr (hw _ (List.mem_of_getElem? (i := 19) rfl))) (ty := .int) (by decide)
    have Fdistance_329 : Fld Z h329 b329 "com/example/wayfront/wayfront/paths/ShortestPathTree" "distance" "[D" .null := D329 (Or.inr (hw _ (List.mem_of_getElem? (i := 21) rfl))) (ty := (.array .double)) (by decide)
    have Fpredecessor_329 : Fld Z h329 b329 "com/example/wayfront/wayfront/paths/ShortestPathTree" "predecessor" "[I" .null := D329 (Or.inr (hw _ (List.mem_of_getElem? (i := 23) rfl))) (ty := (.array .int)) (by decide)
    have Forder_329 : Fld Z h329 b329 "com/example/wayfront/wayfront/paths/ShortestPathTree" "order" "[I" .null := D329 (Or.inr (hw _ (List.mem_of_getElem? (i := 25) rfl))) (ty := (.array .int)) (by decide)
    have Ftail_329 : Fld Z h329 b329 "com/example/wayfront/wayfront/paths/ShortestPathTree" "tail" "[I" .null := D329 (Or.inr (hw _ (List.mem_of_getElem? (i := 27) rfl))) (ty := (.array .int)) (by decide)
    show Go _ _ _ _ _ _ _ T329 (mkF m 170 #[.val (.int ish), .val (.int ind), .val (.int iln), .val (.int ie0), .val (.int ie1), .val (.int ie2), .val (.int vp3), .val (.int vp4), .val (.int (1 : Int32)), .val (.int vn), .val (.int (2 : Int32)), .val (.int (1 : Int32)), .val (.int (0 : Int32)), .val (.ref b301), .val (.ref b308), .val (.ref b313), .val (.ref b321), .unset, .unset, .unset, .unset, .unset, .unset, .unset, .unset, .unset] [(.ref b329)])
    refine Go.step (fun _ k => XS.dup X329.here hx rfl (hb hby at_170) rfl rfl k) ?_
    refine Go.step (fun _ k => XS.iconst X329.here hx rfl (hb hby at_171) k) ?_
    refine Go.step (fun _ k => XS.aload X329.here hx rfl (hb hby at_172) rfl rfl k) ?_
    refine Go.step (fun _ k => XS.aload X329.here hx rfl (hb hby at_174) rfl rfl k) ?_
    refine Go.step (fun _ k => XS.aload X329.here hx rfl (hb hby at_176) rfl rfl k) ?_
    refine Go.step (fun _ k => XS.aload X329.here hx rfl (hb hby at_178) rfl rfl k) ?_
    obtain ⟨_, _, ⟨T333, L333, k333, n333⟩, -, X333, ⟨Lc333, hQ333, l333, y333, z333⟩, st333⟩ := X329.specialBack hx (y := (⟨"com/example/wayfront/wayfront/paths/ShortestPathTree", "<init>", "(I[D[I[I[I)V"⟩ : MethodName)) rfl hown (mvT hZ (hw _ (List.mem_of_getElem? (i := 12) rfl))) (mvT hZ (hw _ (List.mem_of_getElem? (i := 13) rfl))) (mvT hZ (hw _ (List.mem_of_getElem? (i := 14) rfl))) (by decide) (backOf (W := 1) (rmIn l Z a0 hw [] b329 (1 : Int32) b313 b301 b321 b308 h329 n0 Z329 A329 g_b329 Forigin_329 Fdistance_329 Fpredecessor_329 Forder_329 Ftail_329) hZ (hw _ (List.mem_of_getElem? (i := 14) rfl)) (hw _ (List.mem_of_getElem? (i := 11) rfl)) (by decide) (by decide)) (g := (mkF m 180 #[.val (.int ish), .val (.int ind), .val (.int iln), .val (.int ie0), .val (.int ie1), .val (.int ie2), .val (.int vp3), .val (.int vp4), .val (.int (1 : Int32)), .val (.int vn), .val (.int (2 : Int32)), .val (.int (1 : Int32)), .val (.int (0 : Int32)), .val (.ref b301), .val (.ref b308), .val (.ref b313), .val (.ref b321), .unset, .unset, .unset, .unset, .unset, .unset, .unset, .unset, .unset] [(.ref b308), (.ref b321), (.ref b301), (.ref b313), (.int (1 : Int32)), (.ref b329), (.ref b329)])) rfl (by rw [hml]; rfl) (Steps.refl _) (a := b329) (argsL := [(.int (1 : Int32)), (.ref b313), (.ref b301), (.ref b321), (.ref b308)]) (rest := [(.ref b329)]) (lenOf pd__I_D_I_I_I_V rfl) rfl (by show 2 * 0 + _ ≤ _; exact Nat.le_of_eq rfl) (hb hby at_180) (fun _ _ => ⟨rfl, e329, (by decide : 5 + 0 ≤ _), (by decide : 22 + 0 ≤ _)⟩)
    dsimp only [Pt.U, Pt.locs, Pt.cells, Pt.slots] at X333 l333 y333 z333 st333 hQ333
    subst l333 y333 z333
    obtain ⟨h333, e333⟩ : ∃ h, T333.heap = h := ⟨_, rfl⟩
    rw [e333] at hQ333
    obtain ⟨rfl, Nq333, Kq333, E1_333, Fp_333, Ft_333⟩ := hQ333
    have N333 := Fr.app N328 Nq333
    have Z333 : n0 ≤ h333.size := Nat.le_trans Z329 Kq333.1
    refine Go.trans st333 ?_
    show Go _ _ _ _ _ _ _ T333 (mkF m 183 #[.val (.int ish), .val (.int ind), .val (.int iln), .val (.int ie0), .val (.int ie1), .val (.int ie2), .val (.int vp3), .val (.int vp4), .val (.int (1 : Int32)), .val (.int vn), .val (.int (2 : Int32)), .val (.int (1 : Int32)), .val (.int (0 : Int32)), .val (.ref b301), .val (.ref b308), .val (.ref b313), .val (.ref b321), .unset, .unset, .unset, .unset, .unset, .unset, .unset, .unset, .unset] [(.ref b329)])
    refine Go.step (fun _ k => XS.astore X333.here hx rfl (hb hby at_183) rfl rfl (l' := #[.val (.int ish), .val (.int ind), .val (.int iln), .val (.int ie0), .val (.int ie1), .val (.int ie2), .val (.int vp3), .val (.int vp4), .val (.int (1 : Int32)), .val (.int vn), .val (.int (2 : Int32)), .val (.int (1 : Int32)), .val (.int (0 : Int32)), .val (.ref b301), .val (.ref b308), .val (.ref b313), .val (.ref b321), .val (.ref b329), .unset, .unset, .unset, .unset, .unset, .unset, .unset, .unset]) rfl k) ?_
    show Go _ _ _ _ _ _ _ T333 (mkF m 185 #[.val (.int ish), .val (.int ind), .val (.int iln), .val (.int ie0), .val (.int ie1), .val (.int ie2), .val (.int vp3), .val (.int vp4), .val (.int (1 : Int32)), .val (.int vn), .val (.int (2 : Int32)), .val (.int (1 : Int32)), .val (.int (0 : Int32)), .val (.ref b301), .val (.ref b308), .val (.ref b313), .val (.ref b321), .val (.ref b329), .unset, .unset, .unset, .unset, .unset, .unset, .unset, .unset] [])
    have J : ∀ (TJ : State) (hJ : Heap) (LJ : List Loc) (a18 : Addr) (k18 : ClassId) (n18 : Int32) (le : List Int32) (ls0 : List Int32), (Stand p l e room_1 s m #[(.int ish), (.int ind), (.int iln), (.int ie0), (.int ie1), (.int ie2)] below meth c TJ LJ 6 25) → (TJ.heap = hJ) → (Fr n0 LJ) → (n0 ≤ hJ.size) → (Exa Z hJ b329 "com/example/wayfront/wayfront/paths/ShortestPathTree") → (Fld Z hJ b329 "com/example/wayfront/wayfront/paths/ShortestPathTree" "predecessor" "[I" (.ref b301)) → (Fld Z hJ b329 "com/example/wayfront/wayfront/paths/ShortestPathTree" "tail" "[I" (.ref b308)) → (Arv Z hJ b301 k301 .int (5 : Int32) [(.int (-1 : Int32)), (.int (-1 : Int32)), (.int (2 : Int32)), (.int (1 : Int32)), (.int (0 : Int32))] (.int (0 : Int32))) → (Arv Z hJ b308 k308 .int (3 : Int32) [(.int vp4), (.int vp3), (.int (1 : Int32))] (.int (0 : Int32))) → (Arv Z hJ a18 k18 .int n18 (le.map Value.int) (.int (0 : Int32))) → (le.length = n18.toNatClampNeg) → (¬ n18 < 0) → (le.length ≤ 4) → (le = ls0.reverse) → (own_Ch ([(-1 : Int32), (-1 : Int32), (2 : Int32), (1 : Int32), (0 : Int32)] : List Int32) ([vp4, vp3, (1 : Int32)] : List Int32) vn ls0) → Go p e below s room_1.cells room_1.slots (Q_rm0 Z ish ind iln ie0 ie1 ie2 h0 n0) TJ (mkF m 348 #[.val (.int ish), .val (.int ind), .val (.int iln), .val (.int ie0), .val (.int ie1), .val (.int ie2), .val (.int vp3), .val (.int vp4), .val (.int (1 : Int32)), .val (.int vn), .val (.int (2 : Int32)), .val (.int (1 : Int32)), .val (.int (0 : Int32)), .val (.ref b301), .val (.ref b308), .val (.ref b313), .val (.ref b321), .val (.ref b329), .val (.ref a18), .unset, .unset, .unset, .unset, .unset, .unset, .unset] []) := by
      intro TJ hJ LJ a18 k18 n18 le ls0 XJ eJ NJ ZJ Ej Fpj Ftj Vpj Vtj V8j hle hn8 h48 hrv hchj
      refine Go.step (fun _ k => XS.iloadN XJ.here hx rfl (hb hby at_348) rfl k) ?_
      refine Go.step (XJ.ldcInt hx hown (mvT hZ (hw _ (List.mem_of_getElem? (i := 0) rfl))) (g := (mkF m 349 #[.val (.int ish), .val (.int ind), .val (.int iln), .val (.int ie0), .val (.int ie1), .val (.int ie2), .val (.int vp3), .val (.int vp4), .val (.int (1 : Int32)), .val (.int vn), .val (.int (2 : Int32)), .val (.int (1 : Int32)), .val (.int (0 : Int32)), .val (.ref b301), .val (.ref b308), .val (.ref b313), .val (.ref b321), .val (.ref b329), .val (.ref a18), .unset, .unset, .unset, .unset, .unset, .unset, .unset] [(.int iln)])) rfl (hb hby at_349)) ?_
      refine Go.step (fun _ k => XS.iand XJ.here hx rfl (hb hby at_351) rfl k) ?_
      refine Go.step (fun _ k => XS.iconst XJ.here hx rfl (hb hby at_352) k) ?_
      refine Go.step (fun _ k => iremM XJ hx rfl (hb hby at_353) rfl (by decide) k) ?_
      refine Go.step (fun _ k => XS.istore XJ.here hx rfl (hb hby at_354) rfl (l' := #[.val (.int ish), .val (.int ind), .val (.int iln), .val (.int ie0), .val (.int ie1), .val (.int ie2), .val (.int vp3), .val (.int vp4), .val (.int (1 : Int32)), .val (.int vn), .val (.int (2 : Int32)), .val (.int (1 : Int32)), .val (.int (0 : Int32)), .val (.ref b301), .val (.ref b308), .val (.ref b313), .val (.ref b321), .val (.ref b329), .val (.ref a18), .val (.int ((iln &&& (2147483647 : Int32)) % (5 : Int32))), .unset, .unset, .unset, .unset, .unset, .unset]) rfl k) ?_
      show Go _ _ _ _ _ _ _ TJ (mkF m 356 #[.val (.int ish), .val (.int ind), .val (.int iln), .val (.int ie0), .val (.int ie1), .val (.int ie2), .val (.int vp3), .val (.int vp4), .val (.int (1 : Int32)), .val (.int vn), .val (.int (2 : Int32)), .val (.int (1 : Int32)), .val (.int (0 : Int32)), .val (.ref b301), .val (.ref b308), .val (.ref b313), .val (.ref b321), .val (.ref b329), .val (.ref a18), .val (.int ((iln &&& (2147483647 : Int32)) % (5 : Int32))), .unset, .unset, .unset, .unset, .unset, .unset] [])
      have b_vl5 : 0 ≤ ((iln &&& (2147483647 : Int32)) % (5 : Int32)).toInt ∧ ((iln &&& (2147483647 : Int32)) % (5 : Int32)).toInt ≤ 4 := (own_ar20 iln)
      generalize ((iln &&& (2147483647 : Int32)) % (5 : Int32)) = vl5 at b_vl5 ⊢
      show Go _ _ _ _ _ _ _ TJ (mkF m 356 #[.val (.int ish), .val (.int ind), .val (.int iln), .val (.int ie0), .val (.int ie1), .val (.int ie2), .val (.int vp3), .val (.int vp4), .val (.int (1 : Int32)), .val (.int vn), .val (.int (2 : Int32)), .val (.int (1 : Int32)), .val (.int (0 : Int32)), .val (.ref b301), .val (.ref b308), .val (.ref b313), .val (.ref b321), .val (.ref b329), .val (.ref a18), .val (.int vl5), .unset, .unset, .unset, .unset, .unset, .unset] [])
      refine Go.step (fun _ k => XS.iloadN XJ.here hx rfl (hb hby at_356) rfl k) ?_
      refine Go.step (XJ.ldcInt hx hown (mvT hZ (hw _ (List.mem_of_getElem? (i := 0) rfl))) (g := (mkF m 357 #[.val (.int ish), .val (.int ind), .val (.int iln), .val (.int ie0), .val (.int ie1), .val (.int ie2), .val (.int vp3), .val (.int vp4), .val (.int (1 : Int32)), .val (.int vn), .val (.int (2 : Int32)), .val (.int (1 : Int32)), .val (.int (0 : Int32)), .val (.ref b301), .val (.ref b308), .val (.ref b313), .val (.ref b321), .val (.ref b329), .val (.ref a18), .val (.int vl5), .unset, .unset, .unset, .unset, .unset, .unset] [(.int ie0)])) rfl (hb hby at_357)) ?_
      refine Go.step (fun _ k => XS.iand XJ.here hx rfl (hb hby at_359) rfl k) ?_
      refine Go.step (fun _ k => XS.iconst XJ.here hx rfl (hb hby at_360) k) ?_
      refine Go.step (fun _ k => iremM XJ hx rfl (hb hby at_361) rfl (by decide) k) ?_
      refine Go.step (fun _ k => XS.istore XJ.here hx rfl (hb hby at_362) rfl (l' := #[.val (.int ish), .val (.int ind), .val (.int iln), .val (.int ie0), .val (.int ie1), .val (.int ie2), .val (.int vp3), .val (.int vp4), .val (.int (1 : Int32)), .val (.int vn), .val (.int (2 : Int32)), .val (.int (1 : Int32)), .val (.int (0 : Int32)), .val (.ref b301), .val (.ref b308), .val (.ref b313), .val (.ref b321), .val (.ref b329), .val (.ref a18), .val (.int vl5), .val (.int ((ie0 &&& (2147483647 : Int32)) % (4 : Int32))), .unset, .unset, .unset, .unset, .unset]) rfl k) ?_
      show Go _ _ _ _ _ _ _ TJ (mkF m 364 #[.val (.int ish), .val (.int ind), .val (.int iln), .val (.int ie0), .val (.int ie1), .val (.int ie2), .val (.int vp3), .val (.int vp4), .val (.int (1 : Int32)), .val (.int vn), .val (.int (2 : Int32)), .val (.int (1 : Int32)), .val (.int (0 : Int32)), .val (.ref b301), .val (.ref b308), .val (.ref b313), .val (.ref b321), .val (.ref b329), .val (.ref a18), .val (.int vl5), .val (.int ((ie0 &&& (2147483647 : Int32)) % (4 : Int32))), .unset, .unset, .unset, .unset, .unset] [])
      generalize ((ie0 &&& (2147483647 : Int32)) % (4 : Int32)) = c0
      show Go _ _ _ _ _ _ _ TJ (mkF m 364 #[.val (.int ish), .val (.int ind), .val (.int iln), .val (.int ie0), .val (.int ie1), .val (.int ie2), .val (.int vp3), .val (.int vp4), .val (.int (1 : Int32)), .val (.int vn), .val (.int (2 : Int32)), .val (.int (1 : Int32)), .val (.int (0 : Int32)), .val (.ref b301), .val (.ref b308), .val (.ref b313), .val (.ref b321), .val (.ref b329), .val (.ref a18), .val (.int vl5), .val (.int c0), .unset, .unset, .unset, .unset, .unset] [])
      refine Go.step (fun _ k => XS.iload XJ.here hx rfl (hb hby at_364) rfl k) ?_
      refine Go.step (XJ.ldcInt hx hown (mvT hZ (hw _ (List.mem_of_getElem? (i := 0) rfl))) (g := (mkF m 366 #[.val (.int ish), .val (.int ind), .val (.int iln), .val (.int ie0), .val (.int ie1), .val (.int ie2), .val (.int vp3), .val (.int vp4), .val (.int (1 : Int32)), .val (.int vn), .val (.int (2 : Int32)), .val (.int (1 : Int32)), .val (.int (0 : Int32)), .val (.ref b301), .val (.ref b308), .val (.ref b313), .val (.ref b321), .val (.ref b329), .val (.ref a18), .val (.int vl5), .val (.int c0), .unset, .unset, .unset, .unset, .unset] [(.int ie1)])) rfl (hb hby at_366)) ?_
      refine Go.step (fun _ k => XS.iand XJ.here hx rfl (hb hby at_368) rfl k) ?_
      refine Go.step (fun _ k => XS.iconst XJ.here hx rfl (hb hby at_369) k) ?_
      refine Go.step (fun _ k => iremM XJ hx rfl (hb hby at_370) rfl (by decide) k) ?_
      refine Go.step (fun _ k => XS.istore XJ.here hx rfl (hb hby at_371) rfl (l' := #[.val (.int ish), .val (.int ind), .val (.int iln), .val (.int ie0), .val (.int ie1), .val (.int ie2), .val (.int vp3), .val (.int vp4), .val (.int (1 : Int32)), .val (.int vn), .val (.int (2 : Int32)), .val (.int (1 : Int32)), .val (.int (0 : Int32)), .val (.ref b301), .val (.ref b308), .val (.ref b313), .val (.ref b321), .val (.ref b329), .val (.ref a18), .val (.int vl5), .val (.int c0), .val (.int ((ie1 &&& (2147483647 : Int32)) % (4 : Int32))), .unset, .unset, .unset, .unset]) rfl k) ?_
      show Go _ _ _ _ _ _ _ TJ (mkF m 373 #[.val (.int ish), .val (.int ind), .val (.int iln), .val (.int ie0), .val (.int ie1), .val (.int ie2), .val (.int vp3), .val (.int vp4), .val (.int (1 : Int32)), .val (.int vn), .val (.int (2 : Int32)), .val (.int (1 : Int32)), .val (.int (0 : Int32)), .val (.ref b301), .val (.ref b308), .val (.ref b313), .val (.ref b321), .val (.ref b329), .val (.ref a18), .val (.int vl5), .val (.int c0), .val (.int ((ie1 &&& (2147483647 : Int32)) % (4 : Int32))), .unset, .unset, .unset, .unset] [])
      generalize ((ie1 &&& (2147483647 : Int32)) % (4 : Int32)) = c1
      show Go _ _ _ _ _ _ _ TJ (mkF m 373 #[.val (.int ish), .val (.int ind), .val (.int iln), .val (.int ie0), .val (.int ie1), .val (.int ie2), .val (.int vp3), .val (.int vp4), .val (.int (1 : Int32)), .val (.int vn), .val (.int (2 : Int32)), .val (.int (1 : Int32)), .val (.int (0 : Int32)), .val (.ref b301), .val (.ref b308), .val (.ref b313), .val (.ref b321), .val (.ref b329), .val (.ref a18), .val (.int vl5), .val (.int c0), .val (.int c1), .unset, .unset, .unset, .unset] [])
      refine Go.step (fun _ k => XS.iload XJ.here hx rfl (hb hby at_373) rfl k) ?_
      refine Go.step (XJ.ldcInt hx hown (mvT hZ (hw _ (List.mem_of_getElem? (i := 0) rfl))) (g := (mkF m 375 #[.val (.int ish), .val (.int ind), .val (.int iln), .val (.int ie0), .val (.int ie1), .val (.int ie2), .val (.int vp3), .val (.int vp4), .val (.int (1 : Int32)), .val (.int vn), .val (.int (2 : Int32)), .val (.int (1 : Int32)), .val (.int (0 : Int32)), .val (.ref b301), .val (.ref b308), .val (.ref b313), .val (.ref b321), .val (.ref b329), .val (.ref a18), .val (.int vl5), .val (.int c0), .val (.int c1), .unset, .unset, .unset, .unset] [(.int ie2)])) rfl (hb hby at_375)) ?_
      refine Go.step (fun _ k => XS.iand XJ.here hx rfl (hb hby at_377) rfl k) ?_
      refine Go.step (fun _ k => XS.iconst XJ.here hx rfl (hb hby at_378) k) ?_
      refine Go.step (fun _ k => iremM XJ hx rfl (hb hby at_379) rfl (by decide) k) ?_
      refine Go.step (fun _ k => XS.istore XJ.here hx rfl (hb hby at_380) rfl (l' := #[.val (.int ish), .val (.int ind), .val (.int iln), .val (.int ie0), .val (.int ie1), .val (.int ie2), .val (.int vp3), .val (.int vp4), .val (.int (1 : Int32)), .val (.int vn), .val (.int (2 : Int32)), .val (.int (1 : Int32)), .val (.int (0 : Int32)), .val (.ref b301), .val (.ref b308), .val (.ref b313), .val (.ref b321), .val (.ref b329), .val (.ref a18), .val (.int vl5), .val (.int c0), .val (.int c1), .val (.int ((ie2 &&& (2147483647 : Int32)) % (4 : Int32))), .unset, .unset, .unset]) rfl k) ?_
      show Go _ _ _ _ _ _ _ TJ (mkF m 382 #[.val (.int ish), .val (.int ind), .val (.int iln), .val (.int ie0), .val (.int ie1), .val (.int ie2), .val (.int vp3), .val (.int vp4), .val (.int (1 : Int32)), .val (.int vn), .val (.int (2 : Int32)), .val (.int (1 : Int32)), .val (.int (0 : Int32)), .val (.ref b301), .val (.ref b308), .val (.ref b313), .val (.ref b321), .val (.ref b329), .val (.ref a18), .val (.int vl5), .val (.int c0), .val (.int c1), .val (.int ((ie2 &&& (2147483647 : Int32)) % (4 : Int32))), .unset, .unset, .unset] [])
      generalize ((ie2 &&& (2147483647 : Int32)) % (4 : Int32)) = c2
      show Go _ _ _ _ _ _ _ TJ (mkF m 382 #[.val (.int ish), .val (.int ind), .val (.int iln), .val (.int ie0), .val (.int ie1), .val (.int ie2), .val (.int vp3), .val (.int vp4), .val (.int (1 : Int32)), .val (.int vn), .val (.int (2 : Int32)), .val (.int (1 : Int32)), .val (.int (0 : Int32)), .val (.ref b301), .val (.ref b308), .val (.ref b313), .val (.ref b321), .val (.ref b329), .val (.ref a18), .val (.int vl5), .val (.int c0), .val (.int c1), .val (.int c2), .unset, .unset, .unset] [])
      refine Go.step (fun _ k => XS.iloadN XJ.here hx rfl (hb hby at_382) rfl k) ?_
      refine Go.step (fun _ k => XS.bipush XJ.here hx rfl (hb hby at_383) k) ?_
      refine Go.step (fun _ k => XS.iushr XJ.here hx rfl (hb hby at_385) rfl k) ?_
      show Go _ _ _ _ _ _ _ TJ (mkF m 386 #[.val (.int ish), .val (.int ind), .val (.int iln), .val (.int ie0), .val (.int ie1), .val (.int ie2), .val (.int vp3), .val (.int vp4), .val (.int (1 : Int32)), .val (.int vn), .val (.int (2 : Int32)), .val (.int (1 : Int32)), .val (.int (0 : Int32)), .val (.ref b301), .val (.ref b308), .val (.ref b313), .val (.ref b321), .val (.ref b329), .val (.ref a18), .val (.int vl5), .val (.int c0), .val (.int c1), .val (.int c2), .unset, .unset, .unset] [(.int ((ie0.toUInt32 >>> ((8 : Int32) &&& 31).toUInt32).toInt32))])
      refine Go.step (fun _ k => XS.iconst XJ.here hx rfl (hb hby at_386) k) ?_
      refine Go.step (fun _ k => XS.iand XJ.here hx rfl (hb hby at_387) rfl k) ?_
      refine Go.step (fun _ k => XS.istore XJ.here hx rfl (hb hby at_388) rfl (l' := #[.val (.int ish), .val (.int ind), .val (.int iln), .val (.int ie0), .val (.int ie1), .val (.int ie2), .val (.int vp3), .val (.int vp4), .val (.int (1 : Int32)), .val (.int vn), .val (.int (2 : Int32)), .val (.int (1 : Int32)), .val (.int (0 : Int32)), .val (.ref b301), .val (.ref b308), .val (.ref b313), .val (.ref b321), .val (.ref b329), .val (.ref a18), .val (.int vl5), .val (.int c0), .val (.int c1), .val (.int c2), .val (.int (((ie0.toUInt32 >>> ((8 : Int32) &&& 31).toUInt32).toInt32) &&& (3 : Int32))), .unset, .unset]) rfl k) ?_
      show Go _ _ _ _ _ _ _ TJ (mkF m 390 #[.val (.int ish), .val (.int ind), .val (.int iln), .val (.int ie0), .val (.int ie1), .val (.int ie2), .val (.int vp3), .val (.int vp4), .val (.int (1 : Int32)), .val (.int vn), .val (.int (2 : Int32)), .val (.int (1 : Int32)), .val (.int (0 : Int32)), .val (.ref b301), .val (.ref b308), .val (.ref b313), .val (.ref b321), .val (.ref b329), .val (.ref a18), .val (.int vl5), .val (.int c0), .val (.int c1), .val (.int c2), .val (.int (((ie0.toUInt32 >>> ((8 : Int32) &&& 31).toUInt32).toInt32) &&& (3 : Int32))), .unset, .unset] [])
      generalize (((ie0.toUInt32 >>> ((8 : Int32) &&& 31).toUInt32).toInt32) &&& (3 : Int32)) = c3
      show Go _ _ _ _ _ _ _ TJ (mkF m 390 #[.val (.int ish), .val (.int ind), .val (.int iln), .val (.int ie0), .val (.int ie1), .val (.int ie2), .val (.int vp3), .val (.int vp4), .val (.int (1 : Int32)), .val (.int vn), .val (.int (2 : Int32)), .val (.int (1 : Int32)), .val (.int (0 : Int32)), .val (.ref b301), .val (.ref b308), .val (.ref b313), .val (.ref b321), .val (.ref b329), .val (.ref a18), .val (.int vl5), .val (.int c0), .val (.int c1), .val (.int c2), .val (.int c3), .unset, .unset] [])
      rcases own_k5 vl5 ⟨b_vl5.1, Int.lt_of_le_of_lt b_vl5.2 (by decide)⟩ with rfl | rfl | rfl | rfl | rfl
      · show Go _ _ _ _ _ _ _ TJ (mkF m 390 #[.val (.int ish), .val (.int ind), .val (.int iln), .val (.int ie0), .val (.int ie1), .val (.int ie2), .val (.int vp3), .val (.int vp4), .val (.int (1 : Int32)), .val (.int vn), .val (.int (2 : Int32)), .val (.int (1 : Int32)), .val (.int (0 : Int32)), .val (.ref b301), .val (.ref b308), .val (.ref b313), .val (.ref b321), .val (.ref b329), .val (.ref a18), .val (.int (0 : Int32)), .val (.int c0), .val (.int c1), .val (.int c2), .val (.int c3), .unset, .unset] [])
        refine Go.step (fun _ k => XS.iload XJ.here hx rfl (hb hby at_390) rfl k) ?_
        obtain ⟨T334, h334, k334, X334, e334, E334, A334, st334⟩ := newP XJ hx hZ (hw _ (List.mem_of_getElem? (i := 5) rfl)) eJ (g := (mkF m 392 #[.val (.int ish), .val (.int ind), .val (.int iln), .val (.int ie0), .val (.int ie1), .val (.int ie2), .val (.int vp3), .val (.int vp4), .val (.int (1 : Int32)), .val (.int vn), .val (.int (2 : Int32)), .val (.int (1 : Int32)), .val (.int (0 : Int32)), .val (.ref b301), .val (.ref b308), .val (.ref b313), .val (.ref b321), .val (.ref b329), .val (.ref a18), .val (.int (0 : Int32)), .val (.int c0), .val (.int c1), .val (.int c2), .val (.int c3), .unset, .unset] [(.int (0 : Int32))])) rfl (hb hby at_392) rfl (by decide) (cap := 0) (by decide) (by decide) (by decide) (by decide)
        obtain ⟨b334, g334⟩ : ∃ z, z = hJ.size := ⟨_, rfl⟩
        rw [← g334] at A334 st334
        refine Go.step st334 ?_
        have g_b334 : n0 ≤ b334 := Nat.le_trans ZJ (Nat.le_of_eq g334.symm)
        have ne_a18_b334 : a18 ≠ b334 := Nat.ne_of_lt (Nat.lt_of_lt_of_le V8j.lt (Nat.le_of_eq g334.symm))
        have ne_b301_b334 : b301 ≠ b334 := Nat.ne_of_lt (Nat.lt_of_lt_of_le Vpj.lt (Nat.le_of_eq g334.symm))
        have ne_b308_b334 : b308 ≠ b334 := Nat.ne_of_lt (Nat.lt_of_lt_of_le Vtj.lt (Nat.le_of_eq g334.symm))
        have ne_b329_b334 : b329 ≠ b334 := Nat.ne_of_lt (Nat.lt_of_lt_of_le Ej.lt (Nat.le_of_eq g334.symm))
        have Z334 : n0 ≤ h334.size := Nat.le_trans ZJ E334.1
        have V334 : Arv Z h334 b334 k334 .int (0 : Int32) [] (.int (0 : Int32)) := Arv.new A334 (by decide)
        have V335 : Arv Z h334 b334 k334 .int (0 : Int32) [] (.int (0 : Int32)) := (V334).pad (pad_rep [] (.int (0 : Int32)) 0)
        show Go _ _ _ _ _ _ _ T334 (mkF m 394 #[.val (.int ish), .val (.int ind), .val (.int iln), .val (.int ie0), .val (.int ie1), .val (.int ie2), .val (.int vp3), .val (.int vp4), .val (.int (1 : Int32)), .val (.int vn), .val (.int (2 : Int32)), .val (.int (1 : Int32)), .val (.int (0 : Int32)), .val (.ref b301), .val (.ref b308), .val (.ref b313), .val (.ref b321), .val (.ref b329), .val (.ref a18), .val (.int (0 : Int32)), .val (.int c0), .val (.int c1), .val (.int c2), .val (.int c3), .unset, .unset] [(.ref b334)])
        refine Go.step (fun _ k => XS.astore X334.here hx rfl (hb hby at_394) rfl rfl (l' := #[.val (.int ish), .val (.int ind), .val (.int iln), .val (.int ie0), .val (.int ie1), .val (.int ie2), .val (.int vp3), .val (.int vp4), .val (.int (1 : Int32)), .val (.int vn), .val (.int (2 : Int32)), .val (.int (1 : Int32)), .val (.int (0 : Int32)), .val (.ref b301), .val (.ref b308), .val (.ref b313), .val (.ref b321), .val (.ref b329), .val (.ref a18), .val (.int (0 : Int32)), .val (.int c0), .val (.int c1), .val (.int c2), .val (.int c3), .val (.ref b334), .unset]) rfl k) ?_
        show Go _ _ _ _ _ _ _ T334 (mkF m 396 #[.val (.int ish), .val (.int ind), .val (.int iln), .val (.int ie0), .val (.int ie1), .val (.int ie2), .val (.int vp3), .val (.int vp4), .val (.int (1 : Int32)), .val (.int vn), .val (.int (2 : Int32)), .val (.int (1 : Int32)), .val (.int (0 : Int32)), .val (.ref b301), .val (.ref b308), .val (.ref b313), .val (.ref b321), .val (.ref b329), .val (.ref a18), .val (.int (0 : Int32)), .val (.int c0), .val (.int c1), .val (.int c2), .val (.int c3), .val (.ref b334), .unset] [])
        refine Go.step (fun _ k => XS.iload X334.here hx rfl (hb hby at_396) rfl k) ?_
        have hc398_336 : ¬ ((0 : Int32) < (0 : Int32)) := (by decide)
        refine Go.step (fun _ k => XS.ifYes X334.here hx rfl (pc0 := 398) (pc' := 407) rfl (hb hby at_398) rfl ((if0 _ _).trans (flt hc398_336).2.2.2) (by decide) (by decide) k) ?_
        show Go _ _ _ _ _ _ _ T334 (mkF m 407 #[.val (.int ish), .val (.int ind), .val (.int iln), .val (.int ie0), .val (.int ie1), .val (.int ie2), .val (.int vp3), .val (.int vp4), .val (.int (1 : Int32)), .val (.int vn), .val (.int (2 : Int32)), .val (.int (1 : Int32)), .val (.int (0 : Int32)), .val (.ref b301), .val (.ref b308), .val (.ref b313), .val (.ref b321), .val (.ref b329), .val (.ref a18), .val (.int (0 : Int32)), .val (.int c0), .val (.int c1), .val (.int c2), .val (.int c3), .val (.ref b334), .unset] [])
        refine Go.step (fun _ k => XS.iload X334.here hx rfl (hb hby at_407) rfl k) ?_
        refine Go.step (fun _ k => XS.iconst X334.here hx rfl (hb hby at_409) k) ?_
        have hc410_337 : ¬ ((1 : Int32) < (0 : Int32)) := (by decide)
        refine Go.step (fun _ k => XS.icmpYes X334.here hx rfl (pc0 := 410) (pc' := 419) rfl (hb hby at_410) rfl (flt hc410_337).2.2.2 (by decide) (by decide) k) ?_
        show Go _ _ _ _ _ _ _ T334 (mkF m 419 #[.val (.int ish), .val (.int ind), .val (.int iln), .val (.int ie0), .val (.int ie1), .val (.int ie2), .val (.int vp3), .val (.int vp4), .val (.int (1 : Int32)), .val (.int vn), .val (.int (2 : Int32)), .val (.int (1 : Int32)), .val (.int (0 : Int32)), .val (.ref b301), .val (.ref b308), .val (.ref b313), .val (.ref b321), .val (.ref b329), .val (.ref a18), .val (.int (0 : Int32)), .val (.int c0), .val (.int c1), .val (.int c2), .val (.int c3), .val (.ref b334), .unset] [])
        refine Go.step (fun _ k => XS.iload X334.here hx rfl (hb hby at_419) rfl k) ?_
        refine Go.step (fun _ k => XS.iconst X334.here hx rfl (hb hby at_421) k) ?_
        have hc422_338 : ¬ ((2 : Int32) < (0 : Int32)) := (by decide)
        refine Go.step (fun _ k => XS.icmpYes X334.here hx rfl (pc0 := 422) (pc' := 431) rfl (hb hby at_422) rfl (flt hc422_338).2.2.2 (by decide) (by decide) k) ?_
        show Go _ _ _ _ _ _ _ T334 (mkF m 431 #[.val (.int ish), .val (.int ind), .val (.int iln), .val (.int ie0), .val (.int ie1), .val (.int ie2), .val (.int vp3), .val (.int vp4), .val (.int (1 : Int32)), .val (.int vn), .val (.int (2 : Int32)), .val (.int (1 : Int32)), .val (.int (0 : Int32)), .val (.ref b301), .val (.ref b308), .val (.ref b313), .val (.ref b321), .val (.ref b329), .val (.ref a18), .val (.int (0 : Int32)), .val (.int c0), .val (.int c1), .val (.int c2), .val (.int c3), .val (.ref b334), .unset] [])
        refine Go.step (fun _ k => XS.iload X334.here hx rfl (hb hby at_431) rfl k) ?_
        refine Go.step (fun _ k => XS.iconst X334.here hx rfl (hb hby at_433) k) ?_
        have hc434_339 : ¬ ((3 : Int32) < (0 : Int32)) := (by decide)
        refine Go.step (fun _ k => XS.icmpYes X334.here hx rfl (pc0 := 434) (pc' := 443) rfl (hb hby at_434) rfl (flt hc434_339).2.2.2 (by decide) (by decide) k) ?_
        show Go _ _ _ _ _ _ _ T334 (mkF m 443 #[.val (.int ish), .val (.int ind), .val (.int iln), .val (.int ie0), .val (.int ie1), .val (.int ie2), .val (.int vp3), .val (.int vp4), .val (.int (1 : Int32)), .val (.int vn), .val (.int (2 : Int32)), .val (.int (1 : Int32)), .val (.int (0 : Int32)), .val (.ref b301), .val (.ref b308), .val (.ref b313), .val (.ref b321), .val (.ref b329), .val (.ref a18), .val (.int (0 : Int32)), .val (.int c0), .val (.int c1), .val (.int c2), .val (.int c3), .val (.ref b334), .unset] [])
        refine Go.step (fun _ k => XS.aload X334.here hx rfl (hb hby at_443) rfl rfl k) ?_
        refine Go.step (fun _ k => XS.iload X334.here hx rfl (hb hby at_445) rfl k) ?_
        refine Go.step (fun _ k => XS.aload X334.here hx rfl (hb hby at_447) rfl rfl k) ?_
        have f341 : Exa Z h334 b329 "com/example/wayfront/wayfront/paths/ShortestPathTree" := (Ej.ext E334)
        have f342 : Fld Z h334 b329 "com/example/wayfront/wayfront/paths/ShortestPathTree" "predecessor" "[I" (.ref b301) := (Fpj.ext E334)
        have f343 : Fld Z h334 b329 "com/example/wayfront/wayfront/paths/ShortestPathTree" "tail" "[I" (.ref b308) := (Ftj.ext E334)
        have f344 : Arv Z h334 b301 k301 .int (5 : Int32) [(.int (-1 : Int32)), (.int (-1 : Int32)), (.int (2 : Int32)), (.int (1 : Int32)), (.int (0 : Int32))] (.int (0 : Int32)) := (Vpj.ext E334)
        have f345 : Arv Z h334 b308 k308 .int (3 : Int32) [(.int vp4), (.int vp3), (.int (1 : Int32))] (.int (0 : Int32)) := (Vtj.ext E334)
        obtain ⟨cq340, kq340, q340a, q340b, q340c⟩ := isOf hZ e334 f341
        obtain ⟨_, _, ⟨T340, L340, k340, n340⟩, -, X340, ⟨Lc340, hQ340, l340, y340, z340⟩, st340⟩ := X334.virtualBack hx (y := (⟨"com/example/wayfront/wayfront/paths/ShortestPathTree", "isPathTo", "(I[I)Z"⟩ : MethodName)) (z := (⟨"com/example/wayfront/wayfront/paths/ShortestPathTree", "isPathTo", "(I[I)Z"⟩ : MethodName)) hown (mvT hZ (hw _ (List.mem_of_getElem? (i := 28) rfl))) (mvT hZ (hw _ (List.mem_of_getElem? (i := 29) rfl))) (notFace_of_selects (args := #[]) (mvT hZ (hw _ (List.mem_of_getElem? (i := 31) rfl)))) (mvT hZ (hw _ (List.mem_of_getElem? (i := 31) rfl))) (mvT hZ (hw _ (List.mem_of_getElem? (i := 30) rfl))) (by decide) (backOf (W := 0) (rmIs l Z a0 hw [] b329 vn b334 b301 k301 ([(-1 : Int32), (-1 : Int32), (2 : Int32), (1 : Int32), (0 : Int32)] : List Int32) b308 k308 ([vp4, vp3, (1 : Int32)] : List Int32) k334 (0 : Int32) ([] : List Int32) ls0 h334 n0 Z334 f341 f342 f343 f344 f345 V335 rfl rfl rfl (by decide) hchj) hZ (hw _ (List.mem_of_getElem? (i := 32) rfl)) (hw _ (List.mem_of_getElem? (i := 11) rfl)) (by decide) (by decide)) q340a q340c (g := (mkF m 449 #[.val (.int ish), .val (.int ind), .val (.int iln), .val (.int ie0), .val (.int ie1), .val (.int ie2), .val (.int vp3), .val (.int vp4), .val (.int (1 : Int32)), .val (.int vn), .val (.int (2 : Int32)), .val (.int (1 : Int32)), .val (.int (0 : Int32)), .val (.ref b301), .val (.ref b308), .val (.ref b313), .val (.ref b321), .val (.ref b329), .val (.ref a18), .val (.int (0 : Int32)), .val (.int c0), .val (.int c1), .val (.int c2), .val (.int c3), .val (.ref b334), .unset] [(.ref b334), (.int vn), (.ref b329)])) rfl (by rw [hml]; rfl) (Steps.refl _) (argsL := [(.int vn), (.ref b334)]) (rest := []) (lenOf pd__I_I_Z rfl) rfl (by show 2 * 0 + _ ≤ _; exact Nat.le_of_eq rfl) (hb hby at_449) (fun _ _ => ⟨rfl, e334, (by decide : 7 + 0 ≤ _), (by decide : 25 + 0 ≤ _)⟩)
        dsimp only [Pt.U, Pt.locs, Pt.cells, Pt.slots] at X340 l340 y340 z340 st340 hQ340
        subst l340 y340 z340
        obtain ⟨h340, e340⟩ : ∃ h, T340.heap = h := ⟨_, rfl⟩
        rw [e340] at hQ340
        obtain ⟨rfl, Nq340, hs340⟩ := hQ340
        have N340 := Fr.app NJ Nq340
        rw [hs340] at e340
        refine Go.trans st340 ?_
        show Go _ _ _ _ _ _ _ T340 (mkF m 452 #[.val (.int ish), .val (.int ind), .val (.int iln), .val (.int ie0), .val (.int ie1), .val (.int ie2), .val (.int vp3), .val (.int vp4), .val (.int (1 : Int32)), .val (.int vn), .val (.int (2 : Int32)), .val (.int (1 : Int32)), .val (.int (0 : Int32)), .val (.ref b301), .val (.ref b308), .val (.ref b313), .val (.ref b321), .val (.ref b329), .val (.ref a18), .val (.int (0 : Int32)), .val (.int c0), .val (.int c1), .val (.int c2), .val (.int c3), .val (.ref b334), .unset] [(.int (if ([] : List Int32) = ls0.reverse then (1 : Int32) else 0))])
        refine Go.step (fun _ k => XS.istore X340.here hx rfl (hb hby at_452) rfl (l' := #[.val (.int ish), .val (.int ind), .val (.int iln), .val (.int ie0), .val (.int ie1), .val (.int ie2), .val (.int vp3), .val (.int vp4), .val (.int (1 : Int32)), .val (.int vn), .val (.int (2 : Int32)), .val (.int (1 : Int32)), .val (.int (0 : Int32)), .val (.ref b301), .val (.ref b308), .val (.ref b313), .val (.ref b321), .val (.ref b329), .val (.ref a18), .val (.int (0 : Int32)), .val (.int c0), .val (.int c1), .val (.int c2), .val (.int c3), .val (.ref b334), .val (.int (if ([] : List Int32) = ls0.reverse then (1 : Int32) else 0))]) rfl k) ?_
        show Go _ _ _ _ _ _ _ T340 (mkF m 454 #[.val (.int ish), .val (.int ind), .val (.int iln), .val (.int ie0), .val (.int ie1), .val (.int ie2), .val (.int vp3), .val (.int vp4), .val (.int (1 : Int32)), .val (.int vn), .val (.int (2 : Int32)), .val (.int (1 : Int32)), .val (.int (0 : Int32)), .val (.ref b301), .val (.ref b308), .val (.ref b313), .val (.ref b321), .val (.ref b329), .val (.ref a18), .val (.int (0 : Int32)), .val (.int c0), .val (.int c1), .val (.int c2), .val (.int c3), .val (.ref b334), .val (.int (if ([] : List Int32) = ls0.reverse then (1 : Int32) else 0))] [])
        refine Go.step (fun _ k => XS.iload X340.here hx rfl (hb hby at_454) rfl k) ?_
        refine Go.step (fun _ k => XS.aload X340.here hx rfl (hb hby at_456) rfl rfl k) ?_
        refine Go.step (fun _ k => XS.aload X340.here hx rfl (hb hby at_458) rfl rfl k) ?_
        have f347 : Arv Z h334 a18 k18 .int n18 (le.map Value.int) (.int (0 : Int32)) := (V8j.ext E334)
        obtain ⟨_, _, ⟨T346, L346, k346, n346⟩, -, X346, ⟨Lc346, hQ346, l346, y346, z346⟩, st346⟩ := Jvm.LawKit.callS X340 hx (y := (⟨"com/example/wayfront/wayfront/paths/ShortestPathTreeIsPathToPinLaw", "same", "([I[I)Z"⟩ : MethodName)) hown (mvT hZ (hw _ (List.mem_of_getElem? (i := 33) rfl))) (mvT hZ (hw _ (List.mem_of_getElem? (i := 34) rfl))) (mvT hZ (hw _ (List.mem_of_getElem? (i := 3) rfl))) (mvT hZ (hw _ (List.mem_of_getElem? (i := 35) rfl))) (by decide) (backOf (W := 1) (rmSa l Z a0 hw [] a18 b334 k18 n18 le k334 (0 : Int32) ([] : List Int32) h334 n0 Z334 f347 V335 hle hn8 rfl (by decide) h48) hZ (hw _ (List.mem_of_getElem? (i := 35) rfl)) (hw _ (List.mem_of_getElem? (i := 3) rfl)) (by decide) (by decide)) (g := (mkF m 460 #[.val (.int ish), .val (.int ind), .val (.int iln), .val (.int ie0), .val (.int ie1), .val (.int ie2), .val (.int vp3), .val (.int vp4), .val (.int (1 : Int32)), .val (.int vn), .val (.int (2 : Int32)), .val (.int (1 : Int32)), .val (.int (0 : Int32)), .val (.ref b301), .val (.ref b308), .val (.ref b313), .val (.ref b321), .val (.ref b329), .val (.ref a18), .val (.int (0 : Int32)), .val (.int c0), .val (.int c1), .val (.int c2), .val (.int c3), .val (.ref b334), .val (.int (if ([] : List Int32) = ls0.reverse then (1 : Int32) else 0))] [(.ref b334), (.ref a18), (.int (if ([] : List Int32) = ls0.reverse then (1 : Int32) else 0))])) rfl (by rw [hml]; rfl) (argsL := [(.ref a18), (.ref b334)]) (rest := [(.int (if ([] : List Int32) = ls0.reverse then (1 : Int32) else 0))]) (lenOf pd___I_I_Z rfl) rfl (by show 2 * 0 + _ ≤ _; exact Nat.le_of_eq rfl) (hb hby at_460) (fun _ _ => ⟨rfl, e340, (by decide : 7 + 0 ≤ _), (by decide : 25 + 0 ≤ _)⟩)
        dsimp only [Pt.U, Pt.locs, Pt.cells, Pt.slots] at X346 l346 y346 z346 st346 hQ346
        subst l346 y346 z346
        obtain ⟨h346, e346⟩ : ∃ h, T346.heap = h := ⟨_, rfl⟩
        rw [e346] at hQ346
        obtain ⟨rfl, Nq346, hs346⟩ := hQ346
        have N346 := Fr.app N340 Nq346
        rw [hs346] at e346
        refine Go.step st346 ?_
        show Go _ _ _ _ _ _ _ T346 (mkF m 463 #[.val (.int ish), .val (.int ind), .val (.int iln), .val (.int ie0), .val (.int ie1), .val (.int ie2), .val (.int vp3), .val (.int vp4), .val (.int (1 : Int32)), .val (.int vn), .val (.int (2 : Int32)), .val (.int (1 : Int32)), .val (.int (0 : Int32)), .val (.ref b301), .val (.ref b308), .val (.ref b313), .val (.ref b321), .val (.ref b329), .val (.ref a18), .val (.int (0 : Int32)), .val (.int c0), .val (.int c1), .val (.int c2), .val (.int c3), .val (.ref b334), .val (.int (if ([] : List Int32) = ls0.reverse then (1 : Int32) else 0))] [(.int (if le = ([] : List Int32) then (1 : Int32) else 0)), (.int (if ([] : List Int32) = ls0.reverse then (1 : Int32) else 0))])
        have hc463_348 : (if ([] : List Int32) = ls0.reverse then (1 : Int32) else 0) = (if le = ([] : List Int32) then (1 : Int32) else 0) := (own_fin hrv)
        refine Go.step (fun _ k => XS.icmpNo X346.here hx rfl (hb hby at_463) rfl (teq hc463_348).2 k) ?_
        show Go _ _ _ _ _ _ _ T346 (mkF m 466 #[.val (.int ish), .val (.int ind), .val (.int iln), .val (.int ie0), .val (.int ie1), .val (.int ie2), .val (.int vp3), .val (.int vp4), .val (.int (1 : Int32)), .val (.int vn), .val (.int (2 : Int32)), .val (.int (1 : Int32)), .val (.int (0 : Int32)), .val (.ref b301), .val (.ref b308), .val (.ref b313), .val (.ref b321), .val (.ref b329), .val (.ref a18), .val (.int (0 : Int32)), .val (.int c0), .val (.int c1), .val (.int c2), .val (.int c3), .val (.ref b334), .val (.int (if ([] : List Int32) = ls0.reverse then (1 : Int32) else 0))] [])
        refine Go.step (fun _ k => XS.iconst X346.here hx rfl (hb hby at_466) k) ?_
        refine Go.step (fun _ k => XS.goto X346.here hx rfl (pc0 := 467) (pc' := 471) rfl (hb hby at_467) (by decide) (by decide) k) ?_
        show Go _ _ _ _ _ _ _ T346 (mkF m 471 #[.val (.int ish), .val (.int ind), .val (.int iln), .val (.int ie0), .val (.int ie1), .val (.int ie2), .val (.int vp3), .val (.int vp4), .val (.int (1 : Int32)), .val (.int vn), .val (.int (2 : Int32)), .val (.int (1 : Int32)), .val (.int (0 : Int32)), .val (.ref b301), .val (.ref b308), .val (.ref b313), .val (.ref b321), .val (.ref b329), .val (.ref a18), .val (.int (0 : Int32)), .val (.int c0), .val (.int c1), .val (.int c2), .val (.int c3), .val (.ref b334), .val (.int (if ([] : List Int32) = ls0.reverse then (1 : Int32) else 0))] [(.int (1 : Int32))])
        exact Go.retN X346 hx (t := .boolean) hret hlk (by simp) (hb hby at_471) e346 (by decide) (by decide) ⟨rfl, N346, trivial⟩
      · show Go _ _ _ _ _ _ _ TJ (mkF m 390 #[.val (.int ish), .val (.int ind), .val (.int iln), .val (.int ie0), .val (.int ie1), .val (.int ie2), .val (.int vp3), .val (.int vp4), .val (.int (1 : Int32)), .val (.int vn), .val (.int (2 : Int32)), .val (.int (1 : Int32)), .val (.int (0 : Int32)), .val (.ref b301), .val (.ref b308), .val (.ref b313), .val (.ref b321), .val (.ref b329), .val (.ref a18), .val (.int (1 : Int32)), .val (.int c0), .val (.int c1), .val (.int c2), .val (.int c3), .unset, .unset] [])
        refine Go.step (fun _ k => XS.iload XJ.here hx rfl (hb hby at_390) rfl k) ?_
        obtain ⟨T349, h349, k349, X349, e349, E349, A349, st349⟩ := newP XJ hx hZ (hw _ (List.mem_of_getElem? (i := 5) rfl)) eJ (g := (mkF m 392 #[.val (.int ish), .val (.int ind), .val (.int iln), .val (.int ie0), .val (.int ie1), .val (.int ie2), .val (.int vp3), .val (.int vp4), .val (.int (1 : Int32)), .val (.int vn), .val (.int (2 : Int32)), .val (.int (1 : Int32)), .val (.int (0 : Int32)), .val (.ref b301), .val (.ref b308), .val (.ref b313), .val (.ref b321), .val (.ref b329), .val (.ref a18), .val (.int (1 : Int32)), .val (.int c0), .val (.int c1), .val (.int c2), .val (.int c3), .unset, .unset] [(.int (1 : Int32))])) rfl (hb hby at_392) rfl (by decide) (cap := 1) (by decide) (by decide) (by decide) (by decide)
        obtain ⟨b349, g349⟩ : ∃ z, z = hJ.size := ⟨_, rfl⟩
        rw [← g349] at A349 st349
        refine Go.step st349 ?_
        have g_b349 : n0 ≤ b349 := Nat.le_trans ZJ (Nat.le_of_eq g349.symm)
        have ne_a18_b349 : a18 ≠ b349 := Nat.ne_of_lt (Nat.lt_of_lt_of_le V8j.lt (Nat.le_of_eq g349.symm))
        have ne_b301_b349 : b301 ≠ b349 := Nat.ne_of_lt (Nat.lt_of_lt_of_le Vpj.lt (Nat.le_of_eq g349.symm))
        have ne_b308_b349 : b308 ≠ b349 := Nat.ne_of_lt (Nat.lt_of_lt_of_le Vtj.lt (Nat.le_of_eq g349.symm))
        have ne_b329_b349 : b329 ≠ b349 := Nat.ne_of_lt (Nat.lt_of_lt_of_le Ej.lt (Nat.le_of_eq g349.symm))
        have Z349 : n0 ≤ h349.size := Nat.le_trans ZJ E349.1
        have V349 : Arv Z h349 b349 k349 .int (1 : Int32) [] (.int (0 : Int32)) := Arv.new A349 (by decide)
        have V350 : Arv Z h349 b349 k349 .int (1 : Int32) [(.int (0 : Int32))] (.int (0 : Int32)) := (V349).pad (pad_rep [] (.int (0 : Int32)) 1)
        show Go _ _ _ _ _ _ _ T349 (mkF m 394 #[.val (.int ish), .val (.int ind), .val (.int iln), .val (.int ie0), .val (.int ie1), .val (.int ie2), .val (.int vp3), .val (.int vp4), .val (.int (1 : Int32)), .val (.int vn), .val (.int (2 : Int32)), .val (.int (1 : Int32)), .val (.int (0 : Int32)), .val (.ref b301), .val (.ref b308), .val (.ref b313), .val (.ref b321), .val (.ref b329), .val (.ref a18), .val (.int (1 : Int32)), .val (.int c0), .val (.int c1), .val (.int c2), .val (.int c3), .unset, .unset] [(.ref b349)])
        refine Go.step (fun _ k => XS.astore X349.here hx rfl (hb hby at_394) rfl rfl (l' := #[.val (.int ish), .val (.int ind), .val (.int iln), .val (.int ie0), .val (.int ie1), .val (.int ie2), .val (.int vp3), .val (.int vp4), .val (.int (1 : Int32)), .val (.int vn), .val (.int (2 : Int32)), .val (.int (1 : Int32)), .val (.int (0 : Int32)), .val (.ref b301), .val (.ref b308), .val (.ref b313), .val (.ref b321), .val (.ref b329), .val (.ref a18), .val (.int (1 : Int32)), .val (.int c0), .val (.int c1), .val (.int c2), .val (.int c3), .val (.ref b349), .unset]) rfl k) ?_
        show Go _ _ _ _ _ _ _ T349 (mkF m 396 #[.val (.int ish), .val (.int ind), .val (.int iln), .val (.int ie0), .val (.int ie1), .val (.int ie2), .val (.int vp3), .val (.int vp4), .val (.int (1 : Int32)), .val (.int vn), .val (.int (2 : Int32)), .val (.int (1 : Int32)), .val (.int (0 : Int32)), .val (.ref b301), .val (.ref b308), .val (.ref b313), .val (.ref b321), .val (.ref b329), .val (.ref a18), .val (.int (1 : Int32)), .val (.int c0), .val (.int c1), .val (.int c2), .val (.int c3), .val (.ref b349), .unset] [])
        refine Go.step (fun _ k => XS.iload X349.here hx rfl (hb hby at_396) rfl k) ?_
        have hc398_351 : (0 : Int32) < (1 : Int32) := (by decide)
        refine Go.step (fun _ k => XS.ifNo X349.here hx rfl (hb hby at_398) rfl ((if0 _ _).trans (tlt hc398_351).2.2.2) k) ?_
        show Go _ _ _ _ _ _ _ T349 (mkF m 401 #[.val (.int ish), .val (.int ind), .val (.int iln), .val (.int ie0), .val (.int ie1), .val (.int ie2), .val (.int vp3), .val (.int vp4), .val (.int (1 : Int32)), .val (.int vn), .val (.int (2 : Int32)), .val (.int (1 : Int32)), .val (.int (0 : Int32)), .val (.ref b301), .val (.ref b308), .val (.ref b313), .val (.ref b321), .val (.ref b329), .val (.ref a18), .val (.int (1 : Int32)), .val (.int c0), .val (.int c1), .val (.int c2), .val (.int c3), .val (.ref b349), .unset] [])
        refine Go.step (fun _ k => XS.aload X349.here hx rfl (hb hby at_401) rfl rfl k) ?_
        refine Go.step (fun _ k => XS.iconst X349.here hx rfl (hb hby at_403) k) ?_
        refine Go.step (fun _ k => XS.iload X349.here hx rfl (hb hby at_404) rfl k) ?_
        obtain ⟨cl352, Ar352, q352, S352, M352, H352, G352⟩ := id (V350)
        have hin352 : ¬ ((0 : Int32) < 0 ∨ cl352.slots.size ≤ ((0 : Int32)).toNatClampNeg) := inb_of S352 ⟨by decide, by decide⟩
        obtain ⟨T352, h352, X352, e352, W352, st352⟩ := stI X349 hx hZ e349 Ar352 (j := (0 : Int32)) hin352 (g := (mkF m 406 #[.val (.int ish), .val (.int ind), .val (.int iln), .val (.int ie0), .val (.int ie1), .val (.int ie2), .val (.int vp3), .val (.int vp4), .val (.int (1 : Int32)), .val (.int vn), .val (.int (2 : Int32)), .val (.int (1 : Int32)), .val (.int (0 : Int32)), .val (.ref b301), .val (.ref b308), .val (.ref b313), .val (.ref b321), .val (.ref b329), .val (.ref a18), .val (.int (1 : Int32)), .val (.int c0), .val (.int c1), .val (.int c2), .val (.int c3), .val (.ref b349), .unset] [(.int c0), (.int (0 : Int32)), (.ref b349)])) rfl rfl (hb hby at_406)
        refine Go.step st352 ?_
        have V352 : Arv Z h352 b349 k349 .int (1 : Int32) [(.int c0)] (.int (0 : Int32)) := Arv.set Ar352 q352 S352 M352 H352 G352 rfl W352 0 rfl (Nat.le_of_ble_eq_true rfl)
        have N352 := Fr.snoc X352 NJ g_b349
        have Z352 : n0 ≤ h352.size := Nat.le_trans Z349 (Keep.of_wr W352).1
        show Go _ _ _ _ _ _ _ T352 (mkF m 407 #[.val (.int ish), .val (.int ind), .val (.int iln), .val (.int ie0), .val (.int ie1), .val (.int ie2), .val (.int vp3), .val (.int vp4), .val (.int (1 : Int32)), .val (.int vn), .val (.int (2 : Int32)), .val (.int (1 : Int32)), .val (.int (0 : Int32)), .val (.ref b301), .val (.ref b308), .val (.ref b313), .val (.ref b321), .val (.ref b329), .val (.ref a18), .val (.int (1 : Int32)), .val (.int c0), .val (.int c1), .val (.int c2), .val (.int c3), .val (.ref b349), .unset] [])
        refine Go.step (fun _ k => XS.iload X352.here hx rfl (hb hby at_407) rfl k) ?_
        refine Go.step (fun _ k => XS.iconst X352.here hx rfl (hb hby at_409) k) ?_
        have hc410_353 : ¬ ((1 : Int32) < (1 : Int32)) := (by decide)
        refine Go.step (fun _ k => XS.icmpYes X352.here hx rfl (pc0 := 410) (pc' := 419) rfl (hb hby at_410) rfl (flt hc410_353).2.2.2 (by decide) (by decide) k) ?_
        show Go _ _ _ _ _ _ _ T352 (mkF m 419 #[.val (.int ish), .val (.int ind), .val (.int iln), .val (.int ie0), .val (.int ie1), .val (.int ie2), .val (.int vp3), .val (.int vp4), .val (.int (1 : Int32)), .val (.int vn), .val (.int (2 : Int32)), .val (.int (1 : Int32)), .val (.int (0 : Int32)), .val (.ref b301), .val (.ref b308), .val (.ref b313), .val (.ref b321), .val (.ref b329), .val (.ref a18), .val (.int (1 : Int32)), .val (.int c0), .val (.int c1), .val (.int c2), .val (.int c3), .val (.ref b349), .unset] [])
        refine Go.step (fun _ k => XS.iload X352.here hx rfl (hb hby at_419) rfl k) ?_
        refine Go.step (fun _ k => XS.iconst X352.here hx rfl (hb hby at_421) k) ?_
        have hc422_354 : ¬ ((2 : Int32) < (1 : Int32)) := (by decide)
        refine Go.step (fun _ k => XS.icmpYes X352.here hx rfl (pc0 := 422) (pc' := 431) rfl (hb hby at_422) rfl (flt hc422_354).2.2.2 (by decide) (by decide) k) ?_
        show Go _ _ _ _ _ _ _ T352 (mkF m 431 #[.val (.int ish), .val (.int ind), .val (.int iln), .val (.int ie0), .val (.int ie1), .val (.int ie2), .val (.int vp3), .val (.int vp4), .val (.int (1 : Int32)), .val (.int vn), .val (.int (2 : Int32)), .val (.int (1 : Int32)), .val (.int (0 : Int32)), .val (.ref b301), .val (.ref b308), .val (.ref b313), .val (.ref b321), .val (.ref b329), .val (.ref a18), .val (.int (1 : Int32)), .val (.int c0), .val (.int c1), .val (.int c2), .val (.int c3), .val (.ref b349), .unset] [])
        refine Go.step (fun _ k => XS.iload X352.here hx rfl (hb hby at_431) rfl k) ?_
        refine Go.step (fun _ k => XS.iconst X352.here hx rfl (hb hby at_433) k) ?_
        have hc434_355 : ¬ ((3 : Int32) < (1 : Int32)) := (by decide)
        refine Go.step (fun _ k => XS.icmpYes X352.here hx rfl (pc0 := 434) (pc' := 443) rfl (hb hby at_434) rfl (flt hc434_355).2.2.2 (by decide) (by decide) k) ?_
        show Go _ _ _ _ _ _ _ T352 (mkF m 443 #[.val (.int ish), .val (.int ind), .val (.int iln), .val (.int ie0), .val (.int ie1), .val (.int ie2), .val (.int vp3), .val (.int vp4), .val (.int (1 : Int32)), .val (.int vn), .val (.int (2 : Int32)), .val (.int (1 : Int32)), .val (.int (0 : Int32)), .val (.ref b301), .val (.ref b308), .val (.ref b313), .val (.ref b321), .val (.ref b329), .val (.ref a18), .val (.int (1 : Int32)), .val (.int c0), .val (.int c1), .val (.int c2), .val (.int c3), .val (.ref b349), .unset] [])
        refine Go.step (fun _ k => XS.aload X352.here hx rfl (hb hby at_443) rfl rfl k) ?_
        refine Go.step (fun _ k => XS.iload X352.here hx rfl (hb hby at_445) rfl k) ?_
        refine Go.step (fun _ k => XS.aload X352.here hx rfl (hb hby at_447) rfl rfl k) ?_
        have f357 : Exa Z h352 b329 "com/example/wayfront/wayfront/paths/ShortestPathTree" := ((Ej.ext E349).wr W352)
        have f358 : Fld Z h352 b329 "com/example/wayfront/wayfront/paths/ShortestPathTree" "predecessor" "[I" (.ref b301) := ((Fpj.ext E349).other W352 (Or.inl ne_b329_b349))
        have f359 : Fld Z h352 b329 "com/example/wayfront/wayfront/paths/ShortestPathTree" "tail" "[I" (.ref b308) := ((Ftj.ext E349).other W352 (Or.inl ne_b329_b349))
        have f360 : Arv Z h352 b301 k301 .int (5 : Int32) [(.int (-1 : Int32)), (.int (-1 : Int32)), (.int (2 : Int32)), (.int (1 : Int32)), (.int (0 : Int32))] (.int (0 : Int32)) := ((Vpj.ext E349).other W352 ne_b301_b349)
        have f361 : Arv Z h352 b308 k308 .int (3 : Int32) [(.int vp4), (.int vp3), (.int (1 : Int32))] (.int (0 : Int32)) := ((Vtj.ext E349).other W352 ne_b308_b349)
        obtain ⟨cq356, kq356, q356a, q356b, q356c⟩ := isOf hZ e352 f357
        obtain ⟨_, _, ⟨T356, L356, k356, n356⟩, -, X356, ⟨Lc356, hQ356, l356, y356, z356⟩, st356⟩ := X352.virtualBack hx (y := (⟨"com/example/wayfront/wayfront/paths/ShortestPathTree", "isPathTo", "(I[I)Z"⟩ : MethodName)) (z := (⟨"com/example/wayfront/wayfront/paths/ShortestPathTree", "isPathTo", "(I[I)Z"⟩ : MethodName)) hown (mvT hZ (hw _ (List.mem_of_getElem? (i := 28) rfl))) (mvT hZ (hw _ (List.mem_of_getElem? (i := 29) rfl))) (notFace_of_selects (args := #[]) (mvT hZ (hw _ (List.mem_of_getElem? (i := 31) rfl)))) (mvT hZ (hw _ (List.mem_of_getElem? (i := 31) rfl))) (mvT hZ (hw _ (List.mem_of_getElem? (i := 30) rfl))) (by decide) (backOf (W := 0) (rmIs l Z a0 hw [] b329 vn b349 b301 k301 ([(-1 : Int32), (-1 : Int32), (2 : Int32), (1 : Int32), (0 : Int32)] : List Int32) b308 k308 ([vp4, vp3, (1 : Int32)] : List Int32) k349 (1 : Int32) ([c0] : List Int32) ls0 h352 n0 Z352 f357 f358 f359 f360 f361 V352 rfl rfl rfl (by decide) hchj) hZ (hw _ (List.mem_of_getElem? (i := 32) rfl)) (hw _ (List.mem_of_getElem? (i := 11) rfl)) (by decide) (by decide)) q356a q356c (g := (mkF m 449 #[.val (.int ish), .val (.int ind), .val (.int iln), .val (.int ie0), .val (.int ie1), .val (.int ie2), .val (.int vp3), .val (.int vp4), .val (.int (1 : Int32)), .val (.int vn), .val (.int (2 : Int32)), .val (.int (1 : Int32)), .val (.int (0 : Int32)), .val (.ref b301), .val (.ref b308), .val (.ref b313), .val (.ref b321), .val (.ref b329), .val (.ref a18), .val (.int (1 : Int32)), .val (.int c0), .val (.int c1), .val (.int c2), .val (.int c3), .val (.ref b349), .unset] [(.ref b349), (.int vn), (.ref b329)])) rfl (by rw [hml]; rfl) (Steps.refl _) (argsL := [(.int vn), (.ref b349)]) (rest := []) (lenOf pd__I_I_Z rfl) rfl (by show 2 * 0 + _ ≤ _; exact Nat.le_of_eq rfl) (hb hby at_449) (fun _ _ => ⟨rfl, e352, (by decide : 7 + 0 ≤ _), (by decide : 26 + 0 ≤ _)⟩)
        dsimp only [Pt.U, Pt.locs, Pt.cells, Pt.slots] at X356 l356 y356 z356 st356 hQ356
        subst l356 y356 z356
        obtain ⟨h356, e356⟩ : ∃ h, T356.heap = h := ⟨_, rfl⟩
        rw [e356] at hQ356
        obtain ⟨rfl, Nq356, hs356⟩ := hQ356
        have N356 := Fr.app N352 Nq356
        rw [hs356] at e356
        refine Go.trans st356 ?_
        show Go _ _ _ _ _ _ _ T356 (mkF m 452 #[.val (.int ish), .val (.int ind), .val (.int iln), .val (.int ie0), .val (.int ie1), .val (.int ie2), .val (.int vp3), .val (.int vp4), .val (.int (1 : Int32)), .val (.int vn), .val (.int (2 : Int32)), .val (.int (1 : Int32)), .val (.int (0 : Int32)), .val (.ref b301), .val (.ref b308), .val (.ref b313), .val (.ref b321), .val (.ref b329), .val (.ref a18), .val (.int (1 : Int32)), .val (.int c0), .val (.int c1), .val (.int c2), .val (.int c3), .val (.ref b349), .unset] [(.int (if ([c0] : List Int32) = ls0.reverse then (1 : Int32) else 0))])
        refine Go.step (fun _ k => XS.istore X356.here hx rfl (hb hby at_452) rfl (l' := #[.val (.int ish), .val (.int ind), .val (.int iln), .val (.int ie0), .val (.int ie1), .val (.int ie2), .val (.int vp3), .val (.int vp4), .val (.int (1 : Int32)), .val (.int vn), .val (.int (2 : Int32)), .val (.int (1 : Int32)), .val (.int (0 : Int32)), .val (.ref b301), .val (.ref b308), .val (.ref b313), .val (.ref b321), .val (.ref b329), .val (.ref a18), .val (.int (1 : Int32)), .val (.int c0), .val (.int c1), .val (.int c2), .val (.int c3), .val (.ref b349), .val (.int (if ([c0] : List Int32) = ls0.reverse then (1 : Int32) else 0))]) rfl k) ?_
        show Go _ _ _ _ _ _ _ T356 (mkF m 454 #[.val (.int ish), .val (.int ind), .val (.int iln), .val (.int ie0), .val (.int ie1), .val (.int ie2), .val (.int vp3), .val (.int vp4), .val (.int (1 : Int32)), .val (.int vn), .val (.int (2 : Int32)), .val (.int (1 : Int32)), .val (.int (0 : Int32)), .val (.ref b301), .val (.ref b308), .val (.ref b313), .val (.ref b321), .val (.ref b329), .val (.ref a18), .val (.int (1 : Int32)), .val (.int c0), .val (.int c1), .val (.int c2), .val (.int c3), .val (.ref b349), .val (.int (if ([c0] : List Int32) = ls0.reverse then (1 : Int32) else 0))] [])
        refine Go.step (fun _ k => XS.iload X356.here hx rfl (hb hby at_454) rfl k) ?_
        refine Go.step (fun _ k => XS.aload X356.here hx rfl (hb hby at_456) rfl rfl k) ?_
        refine Go.step (fun _ k => XS.aload X356.here hx rfl (hb hby at_458) rfl rfl k) ?_
        have f363 : Arv Z h352 a18 k18 .int n18 (le.map Value.int) (.int (0 : Int32)) := ((V8j.ext E349).other W352 ne_a18_b349)
        obtain ⟨_, _, ⟨T362, L362, k362, n362⟩, -, X362, ⟨Lc362, hQ362, l362, y362, z362⟩, st362⟩ := Jvm.LawKit.callS X356 hx (y := (⟨"com/example/wayfront/wayfront/paths/ShortestPathTreeIsPathToPinLaw", "same", "([I[I)Z"⟩ : MethodName)) hown (mvT hZ (hw _ (List.mem_of_getElem? (i := 33) rfl))) (mvT hZ (hw _ (List.mem_of_getElem? (i := 34) rfl))) (mvT hZ (hw _ (List.mem_of_getElem? (i := 3) rfl))) (mvT hZ (hw _ (List.mem_of_getElem? (i := 35) rfl))) (by decide) (backOf (W := 1) (rmSa l Z a0 hw [] a18 b349 k18 n18 le k349 (1 : Int32) ([c0] : List Int32) h352 n0 Z352 f363 V352 hle hn8 rfl (by decide) h48) hZ (hw _ (List.mem_of_getElem? (i := 35) rfl)) (hw _ (List.mem_of_getElem? (i := 3) rfl)) (by decide) (by decide)) (g := (mkF m 460 #[.val (.int ish), .val (.int ind), .val (.int iln), .val (.int ie0), .val (.int ie1), .val (.int ie2), .val (.int vp3), .val (.int vp4), .val (.int (1 : Int32)), .val (.int vn), .val (.int (2 : Int32)), .val (.int (1 : Int32)), .val (.int (0 : Int32)), .val (.ref b301), .val (.ref b308), .val (.ref b313), .val (.ref b321), .val (.ref b329), .val (.ref a18), .val (.int (1 : Int32)), .val (.int c0), .val (.int c1), .val (.int c2), .val (.int c3), .val (.ref b349), .val (.int (if ([c0] : List Int32) = ls0.reverse then (1 : Int32) else 0))] [(.ref b349), (.ref a18), (.int (if ([c0] : List Int32) = ls0.reverse then (1 : Int32) else 0))])) rfl (by rw [hml]; rfl) (argsL := [(.ref a18), (.ref b349)]) (rest := [(.int (if ([c0] : List Int32) = ls0.reverse then (1 : Int32) else 0))]) (lenOf pd___I_I_Z rfl) rfl (by show 2 * 0 + _ ≤ _; exact Nat.le_of_eq rfl) (hb hby at_460) (fun _ _ => ⟨rfl, e356, (by decide : 7 + 0 ≤ _), (by decide : 26 + 0 ≤ _)⟩)
        dsimp only [Pt.U, Pt.locs, Pt.cells, Pt.slots] at X362 l362 y362 z362 st362 hQ362
        subst l362 y362 z362
        obtain ⟨h362, e362⟩ : ∃ h, T362.heap = h := ⟨_, rfl⟩
        rw [e362] at hQ362
        obtain ⟨rfl, Nq362, hs362⟩ := hQ362
        have N362 := Fr.app N356 Nq362
        rw [hs362] at e362
        refine Go.step st362 ?_
        show Go _ _ _ _ _ _ _ T362 (mkF m 463 #[.val (.int ish), .val (.int ind), .val (.int iln), .val (.int ie0), .val (.int ie1), .val (.int ie2), .val (.int vp3), .val (.int vp4), .val (.int (1 : Int32)), .val (.int vn), .val (.int (2 : Int32)), .val (.int (1 : Int32)), .val (.int (0 : Int32)), .val (.ref b301), .val (.ref b308), .val (.ref b313), .val (.ref b321), .val (.ref b329), .val (.ref a18), .val (.int (1 : Int32)), .val (.int c0), .val (.int c1), .val (.int c2), .val (.int c3), .val (.ref b349), .val (.int (if ([c0] : List Int32) = ls0.reverse then (1 : Int32) else 0))] [(.int (if le = ([c0] : List Int32) then (1 : Int32) else 0)), (.int (if ([c0] : List Int32) = ls0.reverse then (1 : Int32) else 0))])
        have hc463_364 : (if ([c0] : List Int32) = ls0.reverse then (1 : Int32) else 0) = (if le = ([c0] : List Int32) then (1 : Int32) else 0) := (own_fin hrv)
        refine Go.step (fun _ k => XS.icmpNo X362.here hx rfl (hb hby at_463) rfl (teq hc463_364).2 k) ?_
        show Go _ _ _ _ _ _ _ T362 (mkF m 466 #[.val (.int ish), .val (.int ind), .val (.int iln), .val (.int ie0), .val (.int ie1), .val (.int ie2), .val (.int vp3), .val (.int vp4), .val (.int (1 : Int32)), .val (.int vn), .val (.int (2 : Int32)), .val (.int (1 : Int32)), .val (.int (0 : Int32)), .val (.ref b301), .val (.ref b308), .val (.ref b313), .val (.ref b321), .val (.ref b329), .val (.ref a18), .val (.int (1 : Int32)), .val (.int c0), .val (.int c1), .val (.int c2), .val (.int c3), .val (.ref b349), .val (.int (if ([c0] : List Int32) = ls0.reverse then (1 : Int32) else 0))] [])
        refine Go.step (fun _ k => XS.iconst X362.here hx rfl (hb hby at_466) k) ?_
        refine Go.step (fun _ k => XS.goto X362.here hx rfl (pc0 := 467) (pc' := 471) rfl (hb hby at_467) (by decide) (by decide) k) ?_
        show Go _ _ _ _ _ _ _ T362 (mkF m 471 #[.val (.int ish), .val (.int ind), .val (.int iln), .val (.int ie0), .val (.int ie1), .val (.int ie2), .val (.int vp3), .val (.int vp4), .val (.int (1 : Int32)), .val (.int vn), .val (.int (2 : Int32)), .val (.int (1 : Int32)), .val (.int (0 : Int32)), .val (.ref b301), .val (.ref b308), .val (.ref b313), .val (.ref b321), .val (.ref b329), .val (.ref a18), .val (.int (1 : Int32)), .val (.int c0), .val (.int c1), .val (.int c2), .val (.int c3), .val (.ref b349), .val (.int (if ([c0] : List Int32) = ls0.reverse then (1 : Int32) else 0))] [(.int (1 : Int32))])
        exact Go.retN X362 hx (t := .boolean) hret hlk (by simp) (hb hby at_471) e362 (by decide) (by decide) ⟨rfl, N362, trivial⟩
      · show Go _ _ _ _ _ _ _ TJ (mkF m 390 #[.val (.int ish), .val (.int ind), .val (.int iln), .val (.int ie0), .val (.int ie1), .val (.int ie2), .val (.int vp3), .val (.int vp4), .val (.int (1 : Int32)), .val (.int vn), .val (.int (2 : Int32)), .val (.int (1 : Int32)), .val (.int (0 : Int32)), .val (.ref b301), .val (.ref b308), .val (.ref b313), .val (.ref b321), .val (.ref b329), .val (.ref a18), .val (.int (2 : Int32)), .val (.int c0), .val (.int c1), .val (.int c2), .val (.int c3), .unset, .unset] [])
        refine Go.step (fun _ k => XS.iload XJ.here hx rfl (hb hby at_390) rfl k) ?_
        obtain ⟨T365, h365, k365, X365, e365, E365, A365, st365⟩ := newP XJ hx hZ (hw _ (List.mem_of_getElem? (i := 5) rfl)) eJ (g := (mkF m 392 #[.val (.int ish), .val (.int ind), .val (.int iln), .val (.int ie0), .val (.int ie1), .val (.int ie2), .val (.int vp3), .val (.int vp4), .val (.int (1 : Int32)), .val (.int vn), .val (.int (2 : Int32)), .val (.int (1 : Int32)), .val (.int (0 : Int32)), .val (.ref b301), .val (.ref b308), .val (.ref b313), .val (.ref b321), .val (.ref b329), .val (.ref a18), .val (.int (2 : Int32)), .val (.int c0), .val (.int c1), .val (.int c2), .val (.int c3), .unset, .unset] [(.int (2 : Int32))])) rfl (hb hby at_392) rfl (by decide) (cap := 2) (by decide) (by decide) (by decide) (by decide)
        obtain ⟨b365, g365⟩ : ∃ z, z = hJ.size := ⟨_, rfl⟩
        rw [← g365] at A365 st365
        refine Go.step st365 ?_
        have g_b365 : n0 ≤ b365 := Nat.le_trans ZJ (Nat.le_of_eq g365.symm)
        have ne_a18_b365 : a18 ≠ b365 := Nat.ne_of_lt (Nat.lt_of_lt_of_le V8j.lt (Nat.le_of_eq g365.symm))
        have ne_b301_b365 : b301 ≠ b365 := Nat.ne_of_lt (Nat.lt_of_lt_of_le Vpj.lt (Nat.le_of_eq g365.symm))
        have ne_b308_b365 : b308 ≠ b365 := Nat.ne_of_lt (Nat.lt_of_lt_of_le Vtj.lt (Nat.le_of_eq g365.symm))
        have ne_b329_b365 : b329 ≠ b365 := Nat.ne_of_lt (Nat.lt_of_lt_of_le Ej.lt (Nat.le_of_eq g365.symm))
        have Z365 : n0 ≤ h365.size := Nat.le_trans ZJ E365.1
        have V365 : Arv Z h365 b365 k365 .int (2 : Int32) [] (.int (0 : Int32)) := Arv.new A365 (by decide)
        have V366 : Arv Z h365 b365 k365 .int (2 : Int32) [(.int (0 : Int32)), (.int (0 : Int32))] (.int (0 : Int32)) := (V365).pad (pad_rep [] (.int (0 : Int32)) 2)
        show Go _ _ _ _ _ _ _ T365 (mkF m 394 #[.val (.int ish), .val (.int ind), .val (.int iln), .val (.int ie0), .val (.int ie1), .val (.int ie2), .val (.int vp3), .val (.int vp4), .val (.int (1 : Int32)), .val (.int vn), .val (.int (2 : Int32)), .val (.int (1 : Int32)), .val (.int (0 : Int32)), .val (.ref b301), .val (.ref b308), .val (.ref b313), .val (.ref b321), .val (.ref b329), .val (.ref a18), .val (.int (2 : Int32)), .val (.int c0), .val (.int c1), .val (.int c2), .val (.int c3), .unset, .unset] [(.ref b365)])
        refine Go.step (fun _ k => XS.astore X365.here hx rfl (hb hby at_394) rfl rfl (l' := #[.val (.int ish), .val (.int ind), .val (.int iln), .val (.int ie0), .val (.int ie1), .val (.int ie2), .val (.int vp3), .val (.int vp4), .val (.int (1 : Int32)), .val (.int vn), .val (.int (2 : Int32)), .val (.int (1 : Int32)), .val (.int (0 : Int32)), .val (.ref b301), .val (.ref b308), .val (.ref b313), .val (.ref b321), .val (.ref b329), .val (.ref a18), .val (.int (2 : Int32)), .val (.int c0), .val (.int c1), .val (.int c2), .val (.int c3), .val (.ref b365), .unset]) rfl k) ?_
        show Go _ _ _ _ _ _ _ T365 (mkF m 396 #[.val (.int ish), .val (.int ind), .val (.int iln), .val (.int ie0), .val (.int ie1), .val (.int ie2), .val (.int vp3), .val (.int vp4), .val (.int (1 : Int32)), .val (.int vn), .val (.int (2 : Int32)), .val (.int (1 : Int32)), .val (.int (0 : Int32)), .val (.ref b301), .val (.ref b308), .val (.ref b313), .val (.ref b321), .val (.ref b329), .val (.ref a18), .val (.int (2 : Int32)), .val (.int c0), .val (.int c1), .val (.int c2), .val (.int c3), .val (.ref b365), .unset] [])
        refine Go.step (fun _ k => XS.iload X365.here hx rfl (hb hby at_396) rfl k) ?_
        have hc398_367 : (0 : Int32) < (2 : Int32) := (by decide)
        refine Go.step (fun _ k => XS.ifNo X365.here hx rfl (hb hby at_398) rfl ((if0 _ _).trans (tlt hc398_367).2.2.2) k) ?_
        show Go _ _ _ _ _ _ _ T365 (mkF m 401 #[.val (.int ish), .val (.int ind), .val (.int iln), .val (.int ie0), .val (.int ie1), .val (.int ie2), .val (.int vp3), .val (.int vp4), .val (.int (1 : Int32)), .val (.int vn), .val (.int (2 : Int32)), .val (.int (1 : Int32)), .val (.int (0 : Int32)), .val (.ref b301), .val (.ref b308), .val (.ref b313), .val (.ref b321), .val (.ref b329), .val (.ref a18), .val (.int (2 : Int32)), .val (.int c0), .val (.int c1), .val (.int c2), .val (.int c3), .val (.ref b365), .unset] [])
        refine Go.step (fun _ k => XS.aload X365.here hx rfl (hb hby at_401) rfl rfl k) ?_
        refine Go.step (fun _ k => XS.iconst X365.here hx rfl (hb hby at_403) k) ?_
        refine Go.step (fun _ k => XS.iload X365.here hx rfl (hb hby at_404) rfl k) ?_
        obtain ⟨cl368, Ar368, q368, S368, M368, H368, G368⟩ := id (V366)
        have hin368 : ¬ ((0 : Int32) < 0 ∨ cl368.slots.size ≤ ((0 : Int32)).toNatClampNeg) := inb_of S368 ⟨by decide, by decide⟩
        obtain ⟨T368, h368, X368, e368, W368, st368⟩ := stI X365 hx hZ e365 Ar368 (j := (0 : Int32)) hin368 (g := (mkF m 406 #[.val (.int ish), .val (.int ind), .val (.int iln), .val (.int ie0), .val (.int ie1), .val (.int ie2), .val (.int vp3), .val (.int vp4), .val (.int (1 : Int32)), .val (.int vn), .val (.int (2 : Int32)), .val (.int (1 : Int32)), .val (.int (0 : Int32)), .val (.ref b301), .val (.ref b308), .val (.ref b313), .val (.ref b321), .val (.ref b329), .val (.ref a18), .val (.int (2 : Int32)), .val (.int c0), .val (.int c1), .val (.int c2), .val (.int c3), .val (.ref b365), .unset] [(.int c0), (.int (0 : Int32)), (.ref b365)])) rfl rfl (hb hby at_406)
        refine Go.step st368 ?_
        have V368 : Arv Z h368 b365 k365 .int (2 : Int32) [(.int c0), (.int (0 : Int32))] (.int (0 : Int32)) := Arv.set Ar368 q368 S368 M368 H368 G368 rfl W368 0 rfl (Nat.le_of_ble_eq_true rfl)
        have N368 := Fr.snoc X368 NJ g_b365
        have Z368 : n0 ≤ h368.size := Nat.le_trans Z365 (Keep.of_wr W368).1
        show Go _ _ _ _ _ _ _ T368 (mkF m 407 #[.val (.int ish), .val (.int ind), .val (.int iln), .val (.int ie0), .val (.int ie1), .val (.int ie2), .val (.int vp3), .val (.int vp4), .val (.int (1 : Int32)), .val (.int vn), .val (.int (2 : Int32)), .val (.int (1 : Int32)), .val (.int (0 : Int32)), .val (.ref b301), .val (.ref b308), .val (.ref b313), .val (.ref b321), .val (.ref b329), .val (.ref a18), .val (.int (2 : Int32)), .val (.int c0), .val (.int c1), .val (.int c2), .val (.int c3), .val (.ref b365), .unset] [])
        refine Go.step (fun _ k => XS.iload X368.here hx rfl (hb hby at_407) rfl k) ?_
        refine Go.step (fun _ k => XS.iconst X368.here hx rfl (hb hby at_409) k) ?_
        have hc410_369 : (1 : Int32) < (2 : Int32) := (by decide)
        refine Go.step (fun _ k => XS.icmpNo X368.here hx rfl (hb hby at_410) rfl (tlt hc410_369).2.2.2 k) ?_
        show Go _ _ _ _ _ _ _ T368 (mkF m 413 #[.val (.int ish), .val (.int ind), .val (.int iln), .val (.int ie0), .val (.int ie1), .val (.int ie2), .val (.int vp3), .val (.int vp4), .val (.int (1 : Int32)), .val (.int vn), .val (.int (2 : Int32)), .val (.int (1 : Int32)), .val (.int (0 : Int32)), .val (.ref b301), .val (.ref b308), .val (.ref b313), .val (.ref b321), .val (.ref b329), .val (.ref a18), .val (.int (2 : Int32)), .val (.int c0), .val (.int c1), .val (.int c2), .val (.int c3), .val (.ref b365), .unset] [])
        refine Go.step (fun _ k => XS.aload X368.here hx rfl (hb hby at_413) rfl rfl k) ?_
        refine Go.step (fun _ k => XS.iconst X368.here hx rfl (hb hby at_415) k) ?_
        refine Go.step (fun _ k => XS.iload X368.here hx rfl (hb hby at_416) rfl k) ?_
        obtain ⟨cl370, Ar370, q370, S370, M370, H370, G370⟩ := id (V368)
        have hin370 : ¬ ((1 : Int32) < 0 ∨ cl370.slots.size ≤ ((1 : Int32)).toNatClampNeg) := inb_of S370 ⟨by decide, by decide⟩
        obtain ⟨T370, h370, X370, e370, W370, st370⟩ := stI X368 hx hZ e368 Ar370 (j := (1 : Int32)) hin370 (g := (mkF m 418 #[.val (.int ish), .val (.int ind), .val (.int iln), .val (.int ie0), .val (.int ie1), .val (.int ie2), .val (.int vp3), .val (.int vp4), .val (.int (1 : Int32)), .val (.int vn), .val (.int (2 : Int32)), .val (.int (1 : Int32)), .val (.int (0 : Int32)), .val (.ref b301), .val (.ref b308), .val (.ref b313), .val (.ref b321), .val (.ref b329), .val (.ref a18), .val (.int (2 : Int32)), .val (.int c0), .val (.int c1), .val (.int c2), .val (.int c3), .val (.ref b365), .unset] [(.int c1), (.int (1 : Int32)), (.ref b365)])) rfl rfl (hb hby at_418)
        refine Go.step st370 ?_
        have V370 : Arv Z h370 b365 k365 .int (2 : Int32) [(.int c0), (.int c1)] (.int (0 : Int32)) := Arv.set Ar370 q370 S370 M370 H370 G370 rfl W370 1 rfl (Nat.le_of_ble_eq_true rfl)
        have N370 := Fr.snoc X370 N368 g_b365
        have Z370 : n0 ≤ h370.size := Nat.le_trans Z368 (Keep.of_wr W370).1
        show Go _ _ _ _ _ _ _ T370 (mkF m 419 #[.val (.int ish), .val (.int ind), .val (.int iln), .val (.int ie0), .val (.int ie1), .val (.int ie2), .val (.int vp3), .val (.int vp4), .val (.int (1 : Int32)), .val (.int vn), .val (.int (2 : Int32)), .val (.int (1 : Int32)), .val (.int (0 : Int32)), .val (.ref b301), .val (.ref b308), .val (.ref b313), .val (.ref b321), .val (.ref b329), .val (.ref a18), .val (.int (2 : Int32)), .val (.int c0), .val (.int c1), .val (.int c2), .val (.int c3), .val (.ref b365), .unset] [])
        refine Go.step (fun _ k => XS.iload X370.here hx rfl (hb hby at_419) rfl k) ?_
        refine Go.step (fun _ k => XS.iconst X370.here hx rfl (hb hby at_421) k) ?_
        have hc422_371 : ¬ ((2 : Int32) < (2 : Int32)) := (by decide)
        refine Go.step (fun _ k => XS.icmpYes X370.here hx rfl (pc0 := 422) (pc' := 431) rfl (hb hby at_422) rfl (flt hc422_371).2.2.2 (by decide) (by decide) k) ?_
        show Go _ _ _ _ _ _ _ T370 (mkF m 431 #[.val (.int ish), .val (.int ind), .val (.int iln), .val (.int ie0), .val (.int ie1), .val (.int ie2), .val (.int vp3), .val (.int vp4), .val (.int (1 : Int32)), .val (.int vn), .val (.int (2 : Int32)), .val (.int (1 : Int32)), .val (.int (0 : Int32)), .val (.ref b301), .val (.ref b308), .val (.ref b313), .val (.ref b321), .val (.ref b329), .val (.ref a18), .val (.int (2 : Int32)), .val (.int c0), .val (.int c1), .val (.int c2), .val (.int c3), .val (.ref b365), .unset] [])
        refine Go.step (fun _ k => XS.iload X370.here hx rfl (hb hby at_431) rfl k) ?_
        refine Go.step (fun _ k => XS.iconst X370.here hx rfl (hb hby at_433) k) ?_
        have hc434_372 : ¬ ((3 : Int32) < (2 : Int32)) := (by decide)
        refine Go.step (fun _ k => XS.icmpYes X370.here hx rfl (pc0 := 434) (pc' := 443) rfl (hb hby at_434) rfl (flt hc434_372).2.2.2 (by decide) (by decide) k) ?_
        show Go _ _ _ _ _ _ _ T370 (mkF m 443 #[.val (.int ish), .val (.int ind), .val (.int iln), .val (.int ie0), .val (.int ie1), .val (.int ie2), .val (.int vp3), .val (.int vp4), .val (.int (1 : Int32)), .val (.int vn), .val (.int (2 : Int32)), .val (.int (1 : Int32)), .val (.int (0 : Int32)), .val (.ref b301), .val (.ref b308), .val (.ref b313), .val (.ref b321), .val (.ref b329), .val (.ref a18), .val (.int (2 : Int32)), .val (.int c0), .val (.int c1), .val (.int c2), .val (.int c3), .val (.ref b365), .unset] [])
        refine Go.step (fun _ k => XS.aload X370.here hx rfl (hb hby at_443) rfl rfl k) ?_
        refine Go.step (fun _ k => XS.iload X370.here hx rfl (hb hby at_445) rfl k) ?_
        refine Go.step (fun _ k => XS.aload X370.here hx rfl (hb hby at_447) rfl rfl k) ?_
        have f374 : Exa Z h370 b329 "com/example/wayfront/wayfront/paths/ShortestPathTree" := (((Ej.ext E365).wr W368).wr W370)
        have f375 : Fld Z h370 b329 "com/example/wayfront/wayfront/paths/ShortestPathTree" "predecessor" "[I" (.ref b301) := (((Fpj.ext E365).other W368 (Or.inl ne_b329_b365)).other W370 (Or.inl ne_b329_b365))
        have f376 : Fld Z h370 b329 "com/example/wayfront/wayfront/paths/ShortestPathTree" "tail" "[I" (.ref b308) := (((Ftj.ext E365).other W368 (Or.inl ne_b329_b365)).other W370 (Or.inl ne_b329_b365))
        have f377 : Arv Z h370 b301 k301 .int (5 : Int32) [(.int (-1 : Int32)), (.int (-1 : Int32)), (.int (2 : Int32)), (.int (1 : Int32)), (.int (0 : Int32))] (.int (0 : Int32)) := (((Vpj.ext E365).other W368 ne_b301_b365).other W370 ne_b301_b365)
        have f378 : Arv Z h370 b308 k308 .int (3 : Int32) [(.int vp4), (.int vp3), (.int (1 : Int32))] (.int (0 : Int32)) := (((Vtj.ext E365).other W368 ne_b308_b365).other W370 ne_b308_b365)
        obtain ⟨cq373, kq373, q373a, q373b, q373c⟩ := isOf hZ e370 f374
        obtain ⟨_, _, ⟨T373, L373, k373, n373⟩, -, X373, ⟨Lc373, hQ373, l373, y373, z373⟩, st373⟩ := X370.virtualBack hx (y := (⟨"com/example/wayfront/wayfront/paths/ShortestPathTree", "isPathTo", "(I[I)Z"⟩ : MethodName)) (z := (⟨"com/example/wayfront/wayfront/paths/ShortestPathTree", "isPathTo", "(I[I)Z"⟩ : MethodName)) hown (mvT hZ (hw _ (List.mem_of_getElem? (i := 28) rfl))) (mvT hZ (hw _ (List.mem_of_getElem? (i := 29) rfl))) (notFace_of_selects (args := #[]) (mvT hZ (hw _ (List.mem_of_getElem? (i := 31) rfl)))) (mvT hZ (hw _ (List.mem_of_getElem? (i := 31) rfl))) (mvT hZ (hw _ (List.mem_of_getElem? (i := 30) rfl))) (by decide) (backOf (W := 0) (rmIs l Z a0 hw [] b329 vn b365 b301 k301 ([(-1 : Int32), (-1 : Int32), (2 : Int32), (1 : Int32), (0 : Int32)] : List Int32) b308 k308 ([vp4, vp3, (1 : Int32)] : List Int32) k365 (2 : Int32) ([c0, c1] : List Int32) ls0 h370 n0 Z370 f374 f375 f376 f377 f378 V370 rfl rfl rfl (by decide) hchj) hZ (hw _ (List.mem_of_getElem? (i := 32) rfl)) (hw _ (List.mem_of_getElem? (i := 11) rfl)) (by decide) (by decide)) q373a q373c (g := (mkF m 449 #[.val (.int ish), .val (.int ind), .val (.int iln), .val (.int ie0), .val (.int ie1), .val (.int ie2), .val (.int vp3), .val (.int vp4), .val (.int (1 : Int32)), .val (.int vn), .val (.int (2 : Int32)), .val (.int (1 : Int32)), .val (.int (0 : Int32)), .val (.ref b301), .val (.ref b308), .val (.ref b313), .val (.ref b321), .val (.ref b329), .val (.ref a18), .val (.int (2 : Int32)), .val (.int c0), .val (.int c1), .val (.int c2), .val (.int c3), .val (.ref b365), .unset] [(.ref b365), (.int vn), (.ref b329)])) rfl (by rw [hml]; rfl) (Steps.refl _) (argsL := [(.int vn), (.ref b365)]) (rest := []) (lenOf pd__I_I_Z rfl) rfl (by show 2 * 0 + _ ≤ _; exact Nat.le_of_eq rfl) (hb hby at_449) (fun _ _ => ⟨rfl, e370, (by decide : 7 + 0 ≤ _), (by decide : 27 + 0 ≤ _)⟩)
        dsimp only [Pt.U, Pt.locs, Pt.cells, Pt.slots] at X373 l373 y373 z373 st373 hQ373
        subst l373 y373 z373
        obtain ⟨h373, e373⟩ : ∃ h, T373.heap = h := ⟨_, rfl⟩
        rw [e373] at hQ373
        obtain ⟨rfl, Nq373, hs373⟩ := hQ373
        have N373 := Fr.app N370 Nq373
        rw [hs373] at e373
        refine Go.trans st373 ?_
        show Go _ _ _ _ _ _ _ T373 (mkF m 452 #[.val (.int ish), .val (.int ind), .val (.int iln), .val (.int ie0), .val (.int ie1), .val (.int ie2), .val (.int vp3), .val (.int vp4), .val (.int (1 : Int32)), .val (.int vn), .val (.int (2 : Int32)), .val (.int (1 : Int32)), .val (.int (0 : Int32)), .val (.ref b301), .val (.ref b308), .val (.ref b313), .val (.ref b321), .val (.ref b329), .val (.ref a18), .val (.int (2 : Int32)), .val (.int c0), .val (.int c1), .val (.int c2), .val (.int c3), .val (.ref b365), .unset] [(.int (if ([c0, c1] : List Int32) = ls0.reverse then (1 : Int32) else 0))])
        refine Go.step (fun _ k => XS.istore X373.here hx rfl (hb hby at_452) rfl (l' := #[.val (.int ish), .val (.int ind), .val (.int iln), .val (.int ie0), .val (.int ie1), .val (.int ie2), .val (.int vp3), .val (.int vp4), .val (.int (1 : Int32)), .val (.int vn), .val (.int (2 : Int32)), .val (.int (1 : Int32)), .val (.int (0 : Int32)), .val (.ref b301), .val (.ref b308), .val (.ref b313), .val (.ref b321), .val (.ref b329), .val (.ref a18), .val (.int (2 : Int32)), .val (.int c0), .val (.int c1), .val (.int c2), .val (.int c3), .val (.ref b365), .val (.int (if ([c0, c1] : List Int32) = ls0.reverse then (1 : Int32) else 0))]) rfl k) ?_
        show Go _ _ _ _ _ _ _ T373 (mkF m 454 #[.val (.int ish), .val (.int ind), .val (.int iln), .val (.int ie0), .val (.int ie1), .val (.int ie2), .val (.int vp3), .val (.int vp4), .val (.int (1 : Int32)), .val (.int vn), .val (.int (2 : Int32)), .val (.int (1 : Int32)), .val (.int (0 : Int32)), .val (.ref b301), .val (.ref b308), .val (.ref b313), .val (.ref b321), .val (.ref b329), .val (.ref a18), .val (.int (2 : Int32)), .val (.int c0), .val (.int c1), .val (.int c2), .val (.int c3), .val (.ref b365), .val (.int (if ([c0, c1] : List Int32) = ls0.reverse then (1 : Int32) else 0))] [])
        refine Go.step (fun _ k => XS.iload X373.here hx rfl (hb hby at_454) rfl k) ?_
        refine Go.step (fun _ k => XS.aload X373.here hx rfl (hb hby at_456) rfl rfl k) ?_
        refine Go.step (fun _ k => XS.aload X373.here hx rfl (hb hby at_458) rfl rfl k) ?_
        have f380 : Arv Z h370 a18 k18 .int n18 (le.map Value.int) (.int (0 : Int32)) := (((V8j.ext E365).other W368 ne_a18_b365).other W370 ne_a18_b365)
        obtain ⟨_, _, ⟨T379, L379, k379, n379⟩, -, X379, ⟨Lc379, hQ379, l379, y379, z379⟩, st379⟩ := Jvm.LawKit.callS X373 hx (y := (⟨"com/example/wayfront/wayfront/paths/ShortestPathTreeIsPathToPinLaw", "same", "([I[I)Z"⟩ : MethodName)) hown (mvT hZ (hw _ (List.mem_of_getElem? (i := 33) rfl))) (mvT hZ (hw _ (List.mem_of_getElem? (i := 34) rfl))) (mvT hZ (hw _ (List.mem_of_getElem? (i := 3) rfl))) (mvT hZ (hw _ (List.mem_of_getElem? (i := 35) rfl))) (by decide) (backOf (W := 1) (rmSa l Z a0 hw [] a18 b365 k18 n18 le k365 (2 : Int32) ([c0, c1] : List Int32) h370 n0 Z370 f380 V370 hle hn8 rfl (by decide) h48) hZ (hw _ (List.mem_of_getElem? (i := 35) rfl)) (hw _ (List.mem_of_getElem? (i := 3) rfl)) (by decide) (by decide)) (g := (mkF m 460 #[.val (.int ish), .val (.int ind), .val (.int iln), .val (.int ie0), .val (.int ie1), .val (.int ie2), .val (.int vp3), .val (.int vp4), .val (.int (1 : Int32)), .val (.int vn), .val (.int (2 : Int32)), .val (.int (1 : Int32)), .val (.int (0 : Int32)), .val (.ref b301), .val (.ref b308), .val (.ref b313), .val (.ref b321), .val (.ref b329), .val (.ref a18), .val (.int (2 : Int32)), .val (.int c0), .val (.int c1), .val (.int c2), .val (.int c3), .val (.ref b365), .val (.int (if ([c0, c1] : List Int32) = ls0.reverse then (1 : Int32) else 0))] [(.ref b365), (.ref a18), (.int (if ([c0, c1] : List Int32) = ls0.reverse then (1 : Int32) else 0))])) rfl (by rw [hml]; rfl) (argsL := [(.ref a18), (.ref b365)]) (rest := [(.int (if ([c0, c1] : List Int32) = ls0.reverse then (1 : Int32) else 0))]) (lenOf pd___I_I_Z rfl) rfl (by show 2 * 0 + _ ≤ _; exact Nat.le_of_eq rfl) (hb hby at_460) (fun _ _ => ⟨rfl, e373, (by decide : 7 + 0 ≤ _), (by decide : 27 + 0 ≤ _)⟩)
        dsimp only [Pt.U, Pt.locs, Pt.cells, Pt.slots] at X379 l379 y379 z379 st379 hQ379
        subst l379 y379 z379
        obtain ⟨h379, e379⟩ : ∃ h, T379.heap = h := ⟨_, rfl⟩
        rw [e379] at hQ379
        obtain ⟨rfl, Nq379, hs379⟩ := hQ379
        have N379 := Fr.app N373 Nq379
        rw [hs379] at e379
        refine Go.step st379 ?_
        show Go _ _ _ _ _ _ _ T379 (mkF m 463 #[.val (.int ish), .val (.int ind), .val (.int iln), .val (.int ie0), .val (.int ie1), .val (.int ie2), .val (.int vp3), .val (.int vp4), .val (.int (1 : Int32)), .val (.int vn), .val (.int (2 : Int32)), .val (.int (1 : Int32)), .val (.int (0 : Int32)), .val (.ref b301), .val (.ref b308), .val (.ref b313), .val (.ref b321), .val (.ref b329), .val (.ref a18), .val (.int (2 : Int32)), .val (.int c0), .val (.int c1), .val (.int c2), .val (.int c3), .val (.ref b365), .val (.int (if ([c0, c1] : List Int32) = ls0.reverse then (1 : Int32) else 0))] [(.int (if le = ([c0, c1] : List Int32) then (1 : Int32) else 0)), (.int (if ([c0, c1] : List Int32) = ls0.reverse then (1 : Int32) else 0))])
        have hc463_381 : (if ([c0, c1] : List Int32) = ls0.reverse then (1 : Int32) else 0) = (if le = ([c0, c1] : List Int32) then (1 : Int32) else 0) := (own_fin hrv)
        refine Go.step (fun _ k => XS.icmpNo X379.here hx rfl (hb hby at_463) rfl (teq hc463_381).2 k) ?_
        show Go _ _ _ _ _ _ _ T379 (mkF m 466 #[.val (.int ish), .val (.int ind), .val (.int iln), .val (.int ie0), .val (.int ie1), .val (.int ie2), .val (.int vp3), .val (.int vp4), .val (.int (1 : Int32)), .val (.int vn), .val (.int (2 : Int32)), .val (.int (1 : Int32)), .val (.int (0 : Int32)), .val (.ref b301), .val (.ref b308), .val (.ref b313), .val (.ref b321), .val (.ref b329), .val (.ref a18), .val (.int (2 : Int32)), .val (.int c0), .val (.int c1), .val (.int c2), .val (.int c3), .val (.ref b365), .val (.int (if ([c0, c1] : List Int32) = ls0.reverse then (1 : Int32) else 0))] [])
        refine Go.step (fun _ k => XS.iconst X379.here hx rfl (hb hby at_466) k) ?_
        refine Go.step (fun _ k => XS.goto X379.here hx rfl (pc0 := 467) (pc' := 471) rfl (hb hby at_467) (by decide) (by decide) k) ?_
        show Go _ _ _ _ _ _ _ T379 (mkF m 471 #[.val (.int ish), .val (.int ind), .val (.int iln), .val (.int ie0), .val (.int ie1), .val (.int ie2), .val (.int vp3), .val (.int vp4), .val (.int (1 : Int32)), .val (.int vn), .val (.int (2 : Int32)), .val (.int (1 : Int32)), .val (.int (0 : Int32)), .val (.ref b301), .val (.ref b308), .val (.ref b313), .val (.ref b321), .val (.ref b329), .val (.ref a18), .val (.int (2 : Int32)), .val (.int c0), .val (.int c1), .val (.int c2), .val (.int c3), .val (.ref b365), .val (.int (if ([c0, c1] : List Int32) = ls0.reverse then (1 : Int32) else 0))] [(.int (1 : Int32))])
        exact Go.retN X379 hx (t := .boolean) hret hlk (by simp) (hb hby at_471) e379 (by decide) (by decide) ⟨rfl, N379, trivial⟩
      · show Go _ _ _ _ _ _ _ TJ (mkF m 390 #[.val (.int ish), .val (.int ind), .val (.int iln), .val (.int ie0), .val (.int ie1), .val (.int ie2), .val (.int vp3), .val (.int vp4), .val (.int (1 : Int32)), .val (.int vn), .val (.int (2 : Int32)), .val (.int (1 : Int32)), .val (.int (0 : Int32)), .val (.ref b301), .val (.ref b308), .val (.ref b313), .val (.ref b321), .val (.ref b329), .val (.ref a18), .val (.int (3 : Int32)), .val (.int c0), .val (.int c1), .val (.int c2), .val (.int c3), .unset, .unset] [])
        refine Go.step (fun _ k => XS.iload XJ.here hx rfl (hb hby at_390) rfl k) ?_
        obtain ⟨T382, h382, k382, X382, e382, E382, A382, st382⟩ := newP XJ hx hZ (hw _ (List.mem_of_getElem? (i := 5) rfl)) eJ (g := (mkF m 392 #[.val (.int ish), .val (.int ind), .val (.int iln), .val (.int ie0), .val (.int ie1), .val (.int ie2), .val (.int vp3), .val (.int vp4), .val (.int (1 : Int32)), .val (.int vn), .val (.int (2 : Int32)), .val (.int (1 : Int32)), .val (.int (0 : Int32)), .val (.ref b301), .val (.ref b308), .val (.ref b313), .val (.ref b321), .val (.ref b329), .val (.ref a18), .val (.int (3 : Int32)), .val (.int c0), .val (.int c1), .val (.int c2), .val (.int c3), .unset, .unset] [(.int (3 : Int32))])) rfl (hb hby at_392) rfl (by decide) (cap := 3) (by decide) (by decide) (by decide) (by decide)
        obtain ⟨b382, g382⟩ : ∃ z, z = hJ.size := ⟨_, rfl⟩
        rw [← g382] at A382 st382
        refine Go.step st382 ?_
        have g_b382 : n0 ≤ b382 := Nat.le_trans ZJ (Nat.le_of_eq g382.symm)
        have ne_a18_b382 : a18 ≠ b382 := Nat.ne_of_lt (Nat.lt_of_lt_of_le V8j.lt (Nat.le_of_eq g382.symm))
        have ne_b301_b382 : b301 ≠ b382 := Nat.ne_of_lt (Nat.lt_of_lt_of_le Vpj.lt (Nat.le_of_eq g382.symm))
        have ne_b308_b382 : b308 ≠ b382 := Nat.ne_of_lt (Nat.lt_of_lt_of_le Vtj.lt (Nat.le_of_eq g382.symm))
        have ne_b329_b382 : b329 ≠ b382 := Nat.ne_of_lt (Nat.lt_of_lt_of_le Ej.lt (Nat.le_of_eq g382.symm))
        have Z382 : n0 ≤ h382.size := Nat.le_trans ZJ E382.1
        have V382 : Arv Z h382 b382 k382 .int (3 : Int32) [] (.int (0 : Int32)) := Arv.new A382 (by decide)
        have V383 : Arv Z h382 b382 k382 .int (3 : Int32) [(.int (0 : Int32)), (.int (0 : Int32)), (.int (0 : Int32))] (.int (0 : Int32)) := (V382).pad (pad_rep [] (.int (0 : Int32)) 3)
        show Go _ _ _ _ _ _ _ T382 (mkF m 394 #[.val (.int ish), .val (.int ind), .val (.int iln), .val (.int ie0), .val (.int ie1), .val (.int ie2), .val (.int vp3), .val (.int vp4), .val (.int (1 : Int32)), .val (.int vn), .val (.int (2 : Int32)), .val (.int (1 : Int32)), .val (.int (0 : Int32)), .val (.ref b301), .val (.ref b308), .val (.ref b313), .val (.ref b321), .val (.ref b329), .val (.ref a18), .val (.int (3 : Int32)), .val (.int c0), .val (.int c1), .val (.int c2), .val (.int c3), .unset, .unset] [(.ref b382)])
        refine Go.step (fun _ k => XS.astore X382.here hx rfl (hb hby at_394) rfl rfl (l' := #[.val (.int ish), .val (.int ind), .val (.int iln), .val (.int ie0), .val (.int ie1), .val (.int ie2), .val (.int vp3), .val (.int vp4), .val (.int (1 : Int32)), .val (.int vn), .val (.int (2 : Int32)), .val (.int (1 : Int32)), .val (.int (0 : Int32)), .val (.ref b301), .val (.ref b308), .val (.ref b313), .val (.ref b321), .val (.ref b329), .val (.ref a18), .val (.int (3 : Int32)), .val (.int c0), .val (.int c1), .val (.int c2), .val (.int c3), .val (.ref b382), .unset]) rfl k) ?_
        show Go _ _ _ _ _ _ _ T382 (mkF m 396 #[.val (.int ish), .val (.int ind), .val (.int iln), .val (.int ie0), .val (.int ie1), .val (.int ie2), .val (.int vp3), .val (.int vp4), .val (.int (1 : Int32)), .val (.int vn), .val (.int (2 : Int32)), .val (.int (1 : Int32)), .val (.int (0 : Int32)), .val (.ref b301), .val (.ref b308), .val (.ref b313), .val (.ref b321), .val (.ref b329), .val (.ref a18), .val (.int (3 : Int32)), .val (.int c0), .val (.int c1), .val (.int c2), .val (.int c3), .val (.ref b382), .unset] [])
        refine Go.step (fun _ k => XS.iload X382.here hx rfl (hb hby at_396) rfl k) ?_
        have hc398_384 : (0 : Int32) < (3 : Int32) := (by decide)
        refine Go.step (fun _ k => XS.ifNo X382.here hx rfl (hb hby at_398) rfl ((if0 _ _).trans (tlt hc398_384).2.2.2) k) ?_
        show Go _ _ _ _ _ _ _ T382 (mkF m 401 #[.val (.int ish), .val (.int ind), .val (.int iln), .val (.int ie0), .val (.int ie1), .val (.int ie2), .val (.int vp3), .val (.int vp4), .val (.int (1 : Int32)), .val (.int vn), .val (.int (2 : Int32)), .val (.int (1 : Int32)), .val (.int (0 : Int32)), .val (.ref b301), .val (.ref b308), .val (.ref b313), .val (.ref b321), .val (.ref b329), .val (.ref a18), .val (.int (3 : Int32)), .val (.int c0), .val (.int c1), .val (.int c2), .val (.int c3), .val (.ref b382), .unset] [])
        refine Go.step (fun _ k => XS.aload X382.here hx rfl (hb hby at_401) rfl rfl k) ?_
        refine Go.step (fun _ k => XS.iconst X382.here hx rfl (hb hby at_403) k) ?_
        refine Go.step (fun _ k => XS.iload X382.here hx rfl (hb hby at_404) rfl k) ?_
        obtain ⟨cl385, Ar385, q385, S385, M385, H385, G385⟩ := id (V383)
        have hin385 : ¬ ((0 : Int32) < 0 ∨ cl385.slots.size ≤ ((0 : Int32)).toNatClampNeg) := inb_of S385 ⟨by decide, by decide⟩
        obtain ⟨T385, h385, X385, e385, W385, st385⟩ := stI X382 hx hZ e382 Ar385 (j := (0 : Int32)) hin385 (g := (mkF m 406 #[.val (.int ish), .val (.int ind), .val (.int iln), .val (.int ie0), .val (.int ie1), .val (.int ie2), .val (.int vp3), .val (.int vp4), .val (.int (1 : Int32)), .val (.int vn), .val (.int (2 : Int32)), .val (.int (1 : Int32)), .val (.int (0 : Int32)), .val (.ref b301), .val (.ref b308), .val (.ref b313), .val (.ref b321), .val (.ref b329), .val (.ref a18), .val (.int (3 : Int32)), .val (.int c0), .val (.int c1), .val (.int c2), .val (.int c3), .val (.ref b382), .unset] [(.int c0), (.int (0 : Int32)), (.ref b382)])) rfl rfl (hb hby at_406)
        refine Go.step st385 ?_
        have V385 : Arv Z h385 b382 k382 .int (3 : Int32) [(.int c0), (.int (0 : Int32)), (.int (0 : Int32))] (.int (0 : Int32)) := Arv.set Ar385 q385 S385 M385 H385 G385 rfl W385 0 rfl (Nat.le_of_ble_eq_true rfl)
        have N385 := Fr.snoc X385 NJ g_b382
        have Z385 : n0 ≤ h385.size := Nat.le_trans Z382 (Keep.of_wr W385).1
        show Go _ _ _ _ _ _ _ T385 (mkF m 407 #[.val (.int ish), .val (.int ind), .val (.int iln), .val (.int ie0), .val (.int ie1), .val (.int ie2), .val (.int vp3), .val (.int vp4), .val (.int (1 : Int32)), .val (.int vn), .val (.int (2 : Int32)), .val (.int (1 : Int32)), .val (.int (0 : Int32)), .val (.ref b301), .val (.ref b308), .val (.ref b313), .val (.ref b321), .val (.ref b329), .val (.ref a18), .val (.int (3 : Int32)), .val (.int c0), .val (.int c1), .val (.int c2), .val (.int c3), .val (.ref b382), .unset] [])
        refine Go.step (fun _ k => XS.iload X385.here hx rfl (hb hby at_407) rfl k) ?_
        refine Go.step (fun _ k => XS.iconst X385.here hx rfl (hb hby at_409) k) ?_
        have hc410_386 : (1 : Int32) < (3 : Int32) := (by decide)
        refine Go.step (fun _ k => XS.icmpNo X385.here hx rfl (hb hby at_410) rfl (tlt hc410_386).2.2.2 k) ?_
        show Go _ _ _ _ _ _ _ T385 (mkF m 413 #[.val (.int ish), .val (.int ind), .val (.int iln), .val (.int ie0), .val (.int ie1), .val (.int ie2), .val (.int vp3), .val (.int vp4), .val (.int (1 : Int32)), .val (.int vn), .val (.int (2 : Int32)), .val (.int (1 : Int32)), .val (.int (0 : Int32)), .val (.ref b301), .val (.ref b308), .val (.ref b313), .val (.ref b321), .val (.ref b329), .val (.ref a18), .val (.int (3 : Int32)), .val (.int c0), .val (.int c1), .val (.int c2), .val (.int c3), .val (.ref b382), .unset] [])
        refine Go.step (fun _ k => XS.aload X385.here hx rfl (hb hby at_413) rfl rfl k) ?_
        refine Go.step (fun _ k => XS.iconst X385.here hx rfl (hb hby at_415) k) ?_
        refine Go.step (fun _ k => XS.iload X385.here hx rfl (hb hby at_416) rfl k) ?_
        obtain ⟨cl387, Ar387, q387, S387, M387, H387, G387⟩ := id (V385)
        have hin387 : ¬ ((1 : Int32) < 0 ∨ cl387.slots.size ≤ ((1 : Int32)).toNatClampNeg) := inb_of S387 ⟨by decide, by decide⟩
        obtain ⟨T387, h387, X387, e387, W387, st387⟩ := stI X385 hx hZ e385 Ar387 (j := (1 : Int32)) hin387 (g := (mkF m 418 #[.val (.int ish), .val (.int ind), .val (.int iln), .val (.int ie0), .val (.int ie1), .val (.int ie2), .val (.int vp3), .val (.int vp4), .val (.int (1 : Int32)), .val (.int vn), .val (.int (2 : Int32)), .val (.int (1 : Int32)), .val (.int (0 : Int32)), .val (.ref b301), .val (.ref b308), .val (.ref b313), .val (.ref b321), .val (.ref b329), .val (.ref a18), .val (.int (3 : Int32)), .val (.int c0), .val (.int c1), .val (.int c2), .val (.int c3), .val (.ref b382), .unset] [(.int c1), (.int (1 : Int32)), (.ref b382)])) rfl rfl (hb hby at_418)
        refine Go.step st387 ?_
        have V387 : Arv Z h387 b382 k382 .int (3 : Int32) [(.int c0), (.int c1), (.int (0 : Int32))] (.int (0 : Int32)) := Arv.set Ar387 q387 S387 M387 H387 G387 rfl W387 1 rfl (Nat.le_of_ble_eq_true rfl)
        have N387 := Fr.snoc X387 N385 g_b382
        have Z387 : n0 ≤ h387.size := Nat.le_trans Z385 (Keep.of_wr W387).1
        show Go _ _ _ _ _ _ _ T387 (mkF m 419 #[.val (.int ish), .val (.int ind), .val (.int iln), .val (.int ie0), .val (.int ie1), .val (.int ie2), .val (.int vp3), .val (.int vp4), .val (.int (1 : Int32)), .val (.int vn), .val (.int (2 : Int32)), .val (.int (1 : Int32)), .val (.int (0 : Int32)), .val (.ref b301), .val (.ref b308), .val (.ref b313), .val (.ref b321), .val (.ref b329), .val (.ref a18), .val (.int (3 : Int32)), .val (.int c0), .val (.int c1), .val (.int c2), .val (.int c3), .val (.ref b382), .unset] [])
        refine Go.step (fun _ k => XS.iload X387.here hx rfl (hb hby at_419) rfl k) ?_
        refine Go.step (fun _ k => XS.iconst X387.here hx rfl (hb hby at_421) k) ?_
        have hc422_388 : (2 : Int32) < (3 : Int32) := (by decide)
        refine Go.step (fun _ k => XS.icmpNo X387.here hx rfl (hb hby at_422) rfl (tlt hc422_388).2.2.2 k) ?_
        show Go _ _ _ _ _ _ _ T387 (mkF m 425 #[.val (.int ish), .val (.int ind), .val (.int iln), .val (.int ie0), .val (.int ie1), .val (.int ie2), .val (.int vp3), .val (.int vp4), .val (.int (1 : Int32)), .val (.int vn), .val (.int (2 : Int32)), .val (.int (1 : Int32)), .val (.int (0 : Int32)), .val (.ref b301), .val (.ref b308), .val (.ref b313), .val (.ref b321), .val (.ref b329), .val (.ref a18), .val (.int (3 : Int32)), .val (.int c0), .val (.int c1), .val (.int c2), .val (.int c3), .val (.ref b382), .unset] [])
        refine Go.step (fun _ k => XS.aload X387.here hx rfl (hb hby at_425) rfl rfl k) ?_
        refine Go.step (fun _ k => XS.iconst X387.here hx rfl (hb hby at_427) k) ?_
        refine Go.step (fun _ k => XS.iload X387.here hx rfl (hb hby at_428) rfl k) ?_
        obtain ⟨cl389, Ar389, q389, S389, M389, H389, G389⟩ := id (V387)
        have hin389 : ¬ ((2 : Int32) < 0 ∨ cl389.slots.size ≤ ((2 : Int32)).toNatClampNeg) := inb_of S389 ⟨by decide, by decide⟩
        obtain ⟨T389, h389, X389, e389, W389, st389⟩ := stI X387 hx hZ e387 Ar389 (j := (2 : Int32)) hin389 (g := (mkF m 430 #[.val (.int ish), .val (.int ind), .val (.int iln), .val (.int ie0), .val (.int ie1), .val (.int ie2), .val (.int vp3), .val (.int vp4), .val (.int (1 : Int32)), .val (.int vn), .val (.int (2 : Int32)), .val (.int (1 : Int32)), .val (.int (0 : Int32)), .val (.ref b301), .val (.ref b308), .val (.ref b313), .val (.ref b321), .val (.ref b329), .val (.ref a18), .val (.int (3 : Int32)), .val (.int c0), .val (.int c1), .val (.int c2), .val (.int c3), .val (.ref b382), .unset] [(.int c2), (.int (2 : Int32)), (.ref b382)])) rfl rfl (hb hby at_430)
        refine Go.step st389 ?_
        have V389 : Arv Z h389 b382 k382 .int (3 : Int32) [(.int c0), (.int c1), (.int c2)] (.int (0 : Int32)) := Arv.set Ar389 q389 S389 M389 H389 G389 rfl W389 2 rfl (Nat.le_of_ble_eq_true rfl)
        have N389 := Fr.snoc X389 N387 g_b382
        have Z389 : n0 ≤ h389.size := Nat.le_trans Z387 (Keep.of_wr W389).1
        show Go _ _ _ _ _ _ _ T389 (mkF m 431 #[.val (.int ish), .val (.int ind), .val (.int iln), .val (.int ie0), .val (.int ie1), .val (.int ie2), .val (.int vp3), .val (.int vp4), .val (.int (1 : Int32)), .val (.int vn), .val (.int (2 : Int32)), .val (.int (1 : Int32)), .val (.int (0 : Int32)), .val (.ref b301), .val (.ref b308), .val (.ref b313), .val (.ref b321), .val (.ref b329), .val (.ref a18), .val (.int (3 : Int32)), .val (.int c0), .val (.int c1), .val (.int c2), .val (.int c3), .val (.ref b382), .unset] [])
        refine Go.step (fun _ k => XS.iload X389.here hx rfl (hb hby at_431) rfl k) ?_
        refine Go.step (fun _ k => XS.iconst X389.here hx rfl (hb hby at_433) k) ?_
        have hc434_390 : ¬ ((3 : Int32) < (3 : Int32)) := (by decide)
        refine Go.step (fun _ k => XS.icmpYes X389.here hx rfl (pc0 := 434) (pc' := 443) rfl (hb hby at_434) rfl (flt hc434_390).2.2.2 (by decide) (by decide) k) ?_
        show Go _ _ _ _ _ _ _ T389 (mkF m 443 #[.val (.int ish), .val (.int ind), .val (.int iln), .val (.int ie0), .val (.int ie1), .val (.int ie2), .val (.int vp3), .val (.int vp4), .val (.int (1 : Int32)), .val (.int vn), .val (.int (2 : Int32)), .val (.int (1 : Int32)), .val (.int (0 : Int32)), .val (.ref b301), .val (.ref b308), .val (.ref b313), .val (.ref b321), .val (.ref b329), .val (.ref a18), .val (.int (3 : Int32)), .val (.int c0), .val (.int c1), .val (.int c2), .val (.int c3), .val (.ref b382), .unset] [])
        refine Go.step (fun _ k => XS.aload X389.here hx rfl (hb hby at_443) rfl rfl k) ?_
        refine Go.step (fun _ k => XS.iload X389.here hx rfl (hb hby at_445) rfl k) ?_
        refine Go.step (fun _ k => XS.aload X389.here hx rfl (hb hby at_447) rfl rfl k) ?_
        have f392 : Exa Z h389 b329 "com/example/wayfront/wayfront/paths/ShortestPathTree" := ((((Ej.ext E382).wr W385).wr W387).wr W389)
        have f393 : Fld Z h389 b329 "com/example/wayfront/wayfront/paths/ShortestPathTree" "predecessor" "[I" (.ref b301) := ((((Fpj.ext E382).other W385 (Or.inl ne_b329_b382)).other W387 (Or.inl ne_b329_b382)).other W389 (Or.inl ne_b329_b382))
        have f394 : Fld Z h389 b329 "com/example/wayfront/wayfront/paths/ShortestPathTree" "tail" "[I" (.ref b308) := ((((Ftj.ext E382).other W385 (Or.inl ne_b329_b382)).other W387 (Or.inl ne_b329_b382)).other W389 (Or.inl ne_b329_b382))
        have f395 : Arv Z h389 b301 k301 .int (5 : Int32) [(.int (-1 : Int32)), (.int (-1 : Int32)), (.int (2 : Int32)), (.int (1 : Int32)), (.int (0 : Int32))] (.int (0 : Int32)) := ((((Vpj.ext E382).other W385 ne_b301_b382).other W387 ne_b301_b382).other W389 ne_b301_b382)
        have f396 : Arv Z h389 b308 k308 .int (3 : Int32) [(.int vp4), (.int vp3), (.int (1 : Int32))] (.int (0 : Int32)) := ((((Vtj.ext E382).other W385 ne_b308_b382).other W387 ne_b308_b382).other W389 ne_b308_b382)
        obtain ⟨cq391, kq391, q391a, q391b, q391c⟩ := isOf hZ e389 f392
        obtain ⟨_, _, ⟨T391, L391, k391, n391⟩, -, X391, ⟨Lc391, hQ391, l391, y391, z391⟩, st391⟩ := X389.virtualBack hx (y := (⟨"com/example/wayfront/wayfront/paths/ShortestPathTree", "isPathTo", "(I[I)Z"⟩ : MethodName)) (z := (⟨"com/example/wayfront/wayfront/paths/ShortestPathTree", "isPathTo", "(I[I)Z"⟩ : MethodName)) hown (mvT hZ (hw _ (List.mem_of_getElem? (i := 28) rfl))) (mvT hZ (hw _ (List.mem_of_getElem? (i := 29) rfl))) (notFace_of_selects (args := #[]) (mvT hZ (hw _ (List.mem_of_getElem? (i := 31) rfl)))) (mvT hZ (hw _ (List.mem_of_getElem? (i := 31) rfl))) (mvT hZ (hw _ (List.mem_of_getElem? (i := 30) rfl))) (by decide) (backOf (W := 0) (rmIs l Z a0 hw [] b329 vn b382 b301 k301 ([(-1 : Int32), (-1 : Int32), (2 : Int32), (1 : Int32), (0 : Int32)] : List Int32) b308 k308 ([vp4, vp3, (1 : Int32)] : List Int32) k382 (3 : Int32) ([c0, c1, c2] : List Int32) ls0 h389 n0 Z389 f392 f393 f394 f395 f396 V389 rfl rfl rfl (by decide) hchj) hZ (hw _ (List.mem_of_getElem? (i := 32) rfl)) (hw _ (List.mem_of_getElem? (i := 11) rfl)) (by decide) (by decide)) q391a q391c (g := (mkF m 449 #[.val (.int ish), .val (.int ind), .val (.int iln), .val (.int ie0), .val (.int ie1), .val (.int ie2), .val (.int vp3), .val (.int vp4), .val (.int (1 : Int32)), .val (.int vn), .val (.int (2 : Int32)), .val (.int (1 : Int32)), .val (.int (0 : Int32)), .val (.ref b301), .val (.ref b308), .val (.ref b313), .val (.ref b321), .val (.ref b329), .val (.ref a18), .val (.int (3 : Int32)), .val (.int c0), .val (.int c1), .val (.int c2), .val (.int c3), .val (.ref b382), .unset] [(.ref b382), (.int vn), (.ref b329)])) rfl (by rw [hml]; rfl) (Steps.refl _) (argsL := [(.int vn), (.ref b382)]) (rest := []) (lenOf pd__I_I_Z rfl) rfl (by show 2 * 0 + _ ≤ _; exact Nat.le_of_eq rfl) (hb hby at_449) (fun _ _ => ⟨rfl, e389, (by decide : 7 + 0 ≤ _), (by decide : 28 + 0 ≤ _)⟩)
        dsimp only [Pt.U, Pt.locs, Pt.cells, Pt.slots] at X391 l391 y391 z391 st391 hQ391
        subst l391 y391 z391
        obtain ⟨h391, e391⟩ : ∃ h, T391.heap = h := ⟨_, rfl⟩
        rw [e391] at hQ391
        obtain ⟨rfl, Nq391, hs391⟩ := hQ391
        have N391 := Fr.app N389 Nq391
        rw [hs391] at e391
        refine Go.trans st391 ?_
        show Go _ _ _ _ _ _ _ T391 (mkF m 452 #[.val (.int ish), .val (.int ind), .val (.int iln), .val (.int ie0), .val (.int ie1), .val (.int ie2), .val (.int vp3), .val (.int vp4), .val (.int (1 : Int32)), .val (.int vn), .val (.int (2 : Int32)), .val (.int (1 : Int32)), .val (.int (0 : Int32)), .val (.ref b301), .val (.ref b308), .val (.ref b313), .val (.ref b321), .val (.ref b329), .val (.ref a18), .val (.int (3 : Int32)), .val (.int c0), .val (.int c1), .val (.int c2), .val (.int c3), .val (.ref b382), .unset] [(.int (if ([c0, c1, c2] : List Int32) = ls0.reverse then (1 : Int32) else 0))])
        refine Go.step (fun _ k => XS.istore X391.here hx rfl (hb hby at_452) rfl (l' := #[.val (.int ish), .val (.int ind), .val (.int iln), .val (.int ie0), .val (.int ie1), .val (.int ie2), .val (.int vp3), .val (.int vp4), .val (.int (1 : Int32)), .val (.int vn), .val (.int (2 : Int32)), .val (.int (1 : Int32)), .val (.int (0 : Int32)), .val (.ref b301), .val (.ref b308), .val (.ref b313), .val (.ref b321), .val (.ref b329), .val (.ref a18), .val (.int (3 : Int32)), .val (.int c0), .val (.int c1), .val (.int c2), .val (.int c3), .val (.ref b382), .val (.int (if ([c0, c1, c2] : List Int32) = ls0.reverse then (1 : Int32) else 0))]) rfl k) ?_
        show Go _ _ _ _ _ _ _ T391 (mkF m 454 #[.val (.int ish), .val (.int ind), .val (.int iln), .val (.int ie0), .val (.int ie1), .val (.int ie2), .val (.int vp3), .val (.int vp4), .val (.int (1 : Int32)), .val (.int vn), .val (.int (2 : Int32)), .val (.int (1 : Int32)), .val (.int (0 : Int32)), .val (.ref b301), .val (.ref b308), .val (.ref b313), .val (.ref b321), .val (.ref b329), .val (.ref a18), .val (.int (3 : Int32)), .val (.int c0), .val (.int c1), .val (.int c2), .val (.int c3), .val (.ref b382), .val (.int (if ([c0, c1, c2] : List Int32) = ls0.reverse then (1 : Int32) else 0))] [])
        refine Go.step (fun _ k => XS.iload X391.here hx rfl (hb hby at_454) rfl k) ?_
        refine Go.step (fun _ k => XS.aload X391.here hx rfl (hb hby at_456) rfl rfl k) ?_
        refine Go.step (fun _ k => XS.aload X391.here hx rfl (hb hby at_458) rfl rfl k) ?_
        have f398 : Arv Z h389 a18 k18 .int n18 (le.map Value.int) (.int (0 : Int32)) := ((((V8j.ext E382).other W385 ne_a18_b382).other W387 ne_a18_b382).other W389 ne_a18_b382)
        obtain ⟨_, _, ⟨T397, L397, k397, n397⟩, -, X397, ⟨Lc397, hQ397, l397, y397, z397⟩, st397⟩ := Jvm.LawKit.callS X391 hx (y := (⟨"com/example/wayfront/wayfront/paths/ShortestPathTreeIsPathToPinLaw", "same", "([I[I)Z"⟩ : MethodName)) hown (mvT hZ (hw _ (List.mem_of_getElem? (i := 33) rfl))) (mvT hZ (hw _ (List.mem_of_getElem? (i := 34) rfl))) (mvT hZ (hw _ (List.mem_of_getElem? (i := 3) rfl))) (mvT hZ (hw _ (List.mem_of_getElem? (i := 35) rfl))) (by decide) (backOf (W := 1) (rmSa l Z a0 hw [] a18 b382 k18 n18 le k382 (3 : Int32) ([c0, c1, c2] : List Int32) h389 n0 Z389 f398 V389 hle hn8 rfl (by decide) h48) hZ (hw _ (List.mem_of_getElem? (i := 35) rfl)) (hw _ (List.mem_of_getElem? (i := 3) rfl)) (by decide) (by decide)) (g := (mkF m 460 #[.val (.int ish), .val (.int ind), .val (.int iln), .val (.int ie0), .val (.int ie1), .val (.int ie2), .val (.int vp3), .val (.int vp4), .val (.int (1 : Int32)), .val (.int vn), .val (.int (2 : Int32)), .val (.int (1 : Int32)), .val (.int (0 : Int32)), .val (.ref b301), .val (.ref b308), .val (.ref b313), .val (.ref b321), .val (.ref b329), .val (.ref a18), .val (.int (3 : Int32)), .val (.int c0), .val (.int c1), .val (.int c2), .val (.int c3), .val (.ref b382), .val (.int (if ([c0, c1, c2] : List Int32) = ls0.reverse then (1 : Int32) else 0))] [(.ref b382), (.ref a18), (.int (if ([c0, c1, c2] : List Int32) = ls0.reverse then (1 : Int32) else 0))])) rfl (by rw [hml]; rfl) (argsL := [(.ref a18), (.ref b382)]) (rest := [(.int (if ([c0, c1, c2] : List Int32) = ls0.reverse then (1 : Int32) else 0))]) (lenOf pd___I_I_Z rfl) rfl (by show 2 * 0 + _ ≤ _; exact Nat.le_of_eq rfl) (hb hby at_460) (fun _ _ => ⟨rfl, e391, (by decide : 7 + 0 ≤ _), (by decide : 28 + 0 ≤ _)⟩)
        dsimp only [Pt.U, Pt.locs, Pt.cells, Pt.slots] at X397 l397 y397 z397 st397 hQ397
        subst l397 y397 z397
        obtain ⟨h397, e397⟩ : ∃ h, T397.heap = h := ⟨_, rfl⟩
        rw [e397] at hQ397
        obtain ⟨rfl, Nq397, hs397⟩ := hQ397
        have N397 := Fr.app N391 Nq397
        rw [hs397] at e397
        refine Go.step st397 ?_
        show Go _ _ _ _ _ _ _ T397 (mkF m 463 #[.val (.int ish), .val (.int ind), .val (.int iln), .val (.int ie0), .val (.int ie1), .val (.int ie2), .val (.int vp3), .val (.int vp4), .val (.int (1 : Int32)), .val (.int vn), .val (.int (2 : Int32)), .val (.int (1 : Int32)), .val (.int (0 : Int32)), .val (.ref b301), .val (.ref b308), .val (.ref b313), .val (.ref b321), .val (.ref b329), .val (.ref a18), .val (.int (3 : Int32)), .val (.int c0), .val (.int c1), .val (.int c2), .val (.int c3), .val (.ref b382), .val (.int (if ([c0, c1, c2] : List Int32) = ls0.reverse then (1 : Int32) else 0))] [(.int (if le = ([c0, c1, c2] : List Int32) then (1 : Int32) else 0)), (.int (if ([c0, c1, c2] : List Int32) = ls0.reverse then (1 : Int32) else 0))])
        have hc463_399 : (if ([c0, c1, c2] : List Int32) = ls0.reverse then (1 : Int32) else 0) = (if le = ([c0, c1, c2] : List Int32) then (1 : Int32) else 0) := (own_fin hrv)
        refine Go.step (fun _ k => XS.icmpNo X397.here hx rfl (hb hby at_463) rfl (teq hc463_399).2 k) ?_
        show Go _ _ _ _ _ _ _ T397 (mkF m 466 #[.val (.int ish), .val (.int ind), .val (.int iln), .val (.int ie0), .val (.int ie1), .val (.int ie2), .val (.int vp3), .val (.int vp4), .val (.int (1 : Int32)), .val (.int vn), .val (.int (2 : Int32)), .val (.int (1 : Int32)), .val (.int (0 : Int32)), .val (.ref b301), .val (.ref b308), .val (.ref b313), .val (.ref b321), .val (.ref b329), .val (.ref a18), .val (.int (3 : Int32)), .val (.int c0), .val (.int c1), .val (.int c2), .val (.int c3), .val (.ref b382), .val (.int (if ([c0, c1, c2] : List Int32) = ls0.reverse then (1 : Int32) else 0))] [])
        refine Go.step (fun _ k => XS.iconst X397.here hx rfl (hb hby at_466) k) ?_
        refine Go.step (fun _ k => XS.goto X397.here hx rfl (pc0 := 467) (pc' := 471) rfl (hb hby at_467) (by decide) (by decide) k) ?_
        show Go _ _ _ _ _ _ _ T397 (mkF m 471 #[.val (.int ish), .val (.int ind), .val (.int iln), .val (.int ie0), .val (.int ie1), .val (.int ie2), .val (.int vp3), .val (.int vp4), .val (.int (1 : Int32)), .val (.int vn), .val (.int (2 : Int32)), .val (.int (1 : Int32)), .val (.int (0 : Int32)), .val (.ref b301), .val (.ref b308), .val (.ref b313), .val (.ref b321), .val (.ref b329), .val (.ref a18), .val (.int (3 : Int32)), .val (.int c0), .val (.int c1), .val (.int c2), .val (.int c3), .val (.ref b382), .val (.int (if ([c0, c1, c2] : List Int32) = ls0.reverse then (1 : Int32) else 0))] [(.int (1 : Int32))])
        exact Go.retN X397 hx (t := .boolean) hret hlk (by simp) (hb hby at_471) e397 (by decide) (by decide) ⟨rfl, N397, trivial⟩
      · show Go _ _ _ _ _ _ _ TJ (mkF m 390 #[.val (.int ish), .val (.int ind), .val (.int iln), .val (.int ie0), .val (.int ie1), .val (.int ie2), .val (.int vp3), .val (.int vp4), .val (.int (1 : Int32)), .val (.int vn), .val (.int (2 : Int32)), .val (.int (1 : Int32)), .val (.int (0 : Int32)), .val (.ref b301), .val (.ref b308), .val (.ref b313), .val (.ref b321), .val (.ref b329), .val (.ref a18), .val (.int (4 : Int32)), .val (.int c0), .val (.int c1), .val (.int c2), .val (.int c3), .unset, .unset] [])
        refine Go.step (fun _ k => XS.iload XJ.here hx rfl (hb hby at_390) rfl k) ?_
        obtain ⟨T400, h400, k400, X400, e400, E400, A400, st400⟩ := newP XJ hx hZ (hw _ (List.mem_of_getElem? (i := 5) rfl)) eJ (g := (mkF m 392 #[.val (.int ish), .val (.int ind), .val (.int iln), .val (.int ie0), .val (.int ie1), .val (.int ie2), .val (.int vp3), .val (.int vp4), .val (.int (1 : Int32)), .val (.int vn), .val (.int (2 : Int32)), .val (.int (1 : Int32)), .val (.int (0 : Int32)), .val (.ref b301), .val (.ref b308), .val (.ref b313), .val (.ref b321), .val (.ref b329), .val (.ref a18), .val (.int (4 : Int32)), .val (.int c0), .val (.int c1), .val (.int c2), .val (.int c3), .unset, .unset] [(.int (4 : Int32))])) rfl (hb hby at_392) rfl (by decide) (cap := 4) (by decide) (by decide) (by decide) (by decide)
        obtain ⟨b400, g400⟩ : ∃ z, z = hJ.size := ⟨_, rfl⟩
        rw [← g400] at A400 st400
        refine Go.step st400 ?_
        have g_b400 : n0 ≤ b400 := Nat.le_trans ZJ (Nat.le_of_eq g400.symm)
        have ne_a18_b400 : a18 ≠ b400 := Nat.ne_of_lt (Nat.lt_of_lt_of_le V8j.lt (Nat.le_of_eq g400.symm))
        have ne_b301_b400 : b301 ≠ b400 := Nat.ne_of_lt (Nat.lt_of_lt_of_le Vpj.lt (Nat.le_of_eq g400.symm))
        have ne_b308_b400 : b308 ≠ b400 := Nat.ne_of_lt (Nat.lt_of_lt_of_le Vtj.lt (Nat.le_of_eq g400.symm))
        have ne_b329_b400 : b329 ≠ b400 := Nat.ne_of_lt (Nat.lt_of_lt_of_le Ej.lt (Nat.le_of_eq g400.symm))
        have Z400 : n0 ≤ h400.size := Nat.le_trans ZJ E400.1
        have V400 : Arv Z h400 b400 k400 .int (4 : Int32) [] (.int (0 : Int32)) := Arv.new A400 (by decide)
        have V401 : Arv Z h400 b400 k400 .int (4 : Int32) [(.int (0 : Int32)), (.int (0 : Int32)), (.int (0 : Int32)), (.int (0 : Int32))] (.int (0 : Int32)) := (V400).pad (pad_rep [] (.int (0 : Int32)) 4)
        show Go _ _ _ _ _ _ _ T400 (mkF m 394 #[.val (.int ish), .val (.int ind), .val (.int iln), .val (.int ie0), .val (.int ie1), .val (.int ie2), .val (.int vp3), .val (.int vp4), .val (.int (1 : Int32)), .val (.int vn), .val (.int (2 : Int32)), .val (.int (1 : Int32)), .val (.int (0 : Int32)), .val (.ref b301), .val (.ref b308), .val (.ref b313), .val (.ref b321), .val (.ref b329), .val (.ref a18), .val (.int (4 : Int32)), .val (.int c0), .val (.int c1), .val (.int c2), .val (.int c3), .unset, .unset] [(.ref b400)])
        refine Go.step (fun _ k => XS.astore X400.here hx rfl (hb hby at_394) rfl rfl (l' := #[.val (.int ish), .val (.int ind), .val (.int iln), .val (.int ie0), .val (.int ie1), .val (.int ie2), .val (.int vp3), .val (.int vp4), .val (.int (1 : Int32)), .val (.int vn), .val (.int (2 : Int32)), .val (.int (1 : Int32)), .val (.int (0 : Int32)), .val (.ref b301), .val (.ref b308), .val (.ref b313), .val (.ref b321), .val (.ref b329), .val (.ref a18), .val (.int (4 : Int32)), .val (.int c0), .val (.int c1), .val (.int c2), .val (.int c3), .val (.ref b400), .unset]) rfl k) ?_
        show Go _ _ _ _ _ _ _ T400 (mkF m 396 #[.val (.int ish), .val (.int ind), .val (.int iln), .val (.int ie0), .val (.int ie1), .val (.int ie2), .val (.int vp3), .val (.int vp4), .val (.int (1 : Int32)), .val (.int vn), .val (.int (2 : Int32)), .val (.int (1 : Int32)), .val (.int (0 : Int32)), .val (.ref b301), .val (.ref b308), .val (.ref b313), .val (.ref b321), .val (.ref b329), .val (.ref a18), .val (.int (4 : Int32)), .val (.int c0), .val (.int c1), .val (.int c2), .val (.int c3), .val (.ref b400), .unset] [])
        refine Go.step (fun _ k => XS.iload X400.here hx rfl (hb hby at_396) rfl k) ?_
        have hc398_402 : (0 : Int32) < (4 : Int32) := (by decide)
        refine Go.step (fun _ k => XS.ifNo X400.here hx rfl (hb hby at_398) rfl ((if0 _ _).trans (tlt hc398_402).2.2.2) k) ?_
        show Go _ _ _ _ _ _ _ T400 (mkF m 401 #[.val (.int ish), .val (.int ind), .val (.int iln), .val (.int ie0), .val (.int ie1), .val (.int ie2), .val (.int vp3), .val (.int vp4), .val (.int (1 : Int32)), .val (.int vn), .val (.int (2 : Int32)), .val (.int (1 : Int32)), .val (.int (0 : Int32)), .val (.ref b301), .val (.ref b308), .val (.ref b313), .val (.ref b321), .val (.ref b329), .val (.ref a18), .val (.int (4 : Int32)), .val (.int c0), .val (.int c1), .val (.int c2), .val (.int c3), .val (.ref b400), .unset] [])
        refine Go.step (fun _ k => XS.aload X400.here hx rfl (hb hby at_401) rfl rfl k) ?_
        refine Go.step (fun _ k => XS.iconst X400.here hx rfl (hb hby at_403) k) ?_
        refine Go.step (fun _ k => XS.iload X400.here hx rfl (hb hby at_404) rfl k) ?_
        obtain ⟨cl403, Ar403, q403, S403, M403, H403, G403⟩ := id (V401)
        have hin403 : ¬ ((0 : Int32) < 0 ∨ cl403.slots.size ≤ ((0 : Int32)).toNatClampNeg) := inb_of S403 ⟨by decide, by decide⟩
        obtain ⟨T403, h403, X403, e403, W403, st403⟩ := stI X400 hx hZ e400 Ar403 (j := (0 : Int32)) hin403 (g := (mkF m 406 #[.val (.int ish), .val (.int ind), .val (.int iln), .val (.int ie0), .val (.int ie1), .val (.int ie2), .val (.int vp3), .val (.int vp4), .val (.int (1 : Int32)), .val (.int vn), .val (.int (2 : Int32)), .val (.int (1 : Int32)), .val (.int (0 : Int32)), .val (.ref b301), .val (.ref b308), .val (.ref b313), .val (.ref b321), .val (.ref b329), .val (.ref a18), .val (.int (4 : Int32)), .val (.int c0), .val (.int c1), .val (.int c2), .val (.int c3), .val (.ref b400), .unset] [(.int c0), (.int (0 : Int32)), (.ref b400)])) rfl rfl (hb hby at_406)
        refine Go.step st403 ?_
        have V403 : Arv Z h403 b400 k400 .int (4 : Int32) [(.int c0), (.int (0 : Int32)), (.int (0 : Int32)), (.int (0 : Int32))] (.int (0 : Int32)) := Arv.set Ar403 q403 S403 M403 H403 G403 rfl W403 0 rfl (Nat.le_of_ble_eq_true rfl)
        have N403 := Fr.snoc X403 NJ g_b400
        have Z403 : n0 ≤ h403.size := Nat.le_trans Z400 (Keep.of_wr W403).1
        show Go _ _ _ _ _ _ _ T403 (mkF m 407 #[.val (.int ish), .val (.int ind), .val (.int iln), .val (.int ie0), .val (.int ie1), .val (.int ie2), .val (.int vp3), .val (.int vp4), .val (.int (1 : Int32)), .val (.int vn), .val (.int (2 : Int32)), .val (.int (1 : Int32)), .val (.int (0 : Int32)), .val (.ref b301), .val (.ref b308), .val (.ref b313), .val (.ref b321), .val (.ref b329), .val (.ref a18), .val (.int (4 : Int32)), .val (.int c0), .val (.int c1), .val (.int c2), .val (.int c3), .val (.ref b400), .unset] [])
        refine Go.step (fun _ k => XS.iload X403.here hx rfl (hb hby at_407) rfl k) ?_
        refine Go.step (fun _ k => XS.iconst X403.here hx rfl (hb hby at_409) k) ?_
        have hc410_404 : (1 : Int32) < (4 : Int32) := (by decide)
        refine Go.step (fun _ k => XS.icmpNo X403.here hx rfl (hb hby at_410) rfl (tlt hc410_404).2.2.2 k) ?_
        show Go _ _ _ _ _ _ _ T403 (mkF m 413 #[.val (.int ish), .val (.int ind), .val (.int iln), .val (.int ie0), .val (.int ie1), .val (.int ie2), .val (.int vp3), .val (.int vp4), .val (.int (1 : Int32)), .val (.int vn), .val (.int (2 : Int32)), .val (.int (1 : Int32)), .val (.int (0 : Int32)), .val (.ref b301), .val (.ref b308), .val (.ref b313), .val (.ref b321), .val (.ref b329), .val (.ref a18), .val (.int (4 : Int32)), .val (.int c0), .val (.int c1), .val (.int c2), .val (.int c3), .val (.ref b400), .unset] [])
        refine Go.step (fun _ k => XS.aload X403.here hx rfl (hb hby at_413) rfl rfl k) ?_
        refine Go.step (fun _ k => XS.iconst X403.here hx rfl (hb hby at_415) k) ?_
        refine Go.step (fun _ k => XS.iload X403.here hx rfl (hb hby at_416) rfl k) ?_
        obtain ⟨cl405, Ar405, q405, S405, M405, H405, G405⟩ := id (V403)
        have hin405 : ¬ ((1 : Int32) < 0 ∨ cl405.slots.size ≤ ((1 : Int32)).toNatClampNeg) := inb_of S405 ⟨by decide, by decide⟩
        obtain ⟨T405, h405, X405, e405, W405, st405⟩ := stI X403 hx hZ e403 Ar405 (j := (1 : Int32)) hin405 (g := (mkF m 418 #[.val (.int ish), .val (.int ind), .val (.int iln), .val (.int ie0), .val (.int ie1), .val (.int ie2), .val (.int vp3), .val (.int vp4), .val (.int (1 : Int32)), .val (.int vn), .val (.int (2 : Int32)), .val (.int (1 : Int32)), .val (.int (0 : Int32)), .val (.ref b301), .val (.ref b308), .val (.ref b313), .val (.ref b321), .val (.ref b329), .val (.ref a18), .val (.int (4 : Int32)), .val (.int c0), .val (.int c1), .val (.int c2), .val (.int c3), .val (.ref b400), .unset] [(.int c1), (.int (1 : Int32)), (.ref b400)])) rfl rfl (hb hby at_418)
        refine Go.step st405 ?_
        have V405 : Arv Z h405 b400 k400 .int (4 : Int32) [(.int c0), (.int c1), (.int (0 : Int32)), (.int (0 : Int32))] (.int (0 : Int32)) := Arv.set Ar405 q405 S405 M405 H405 G405 rfl W405 1 rfl (Nat.le_of_ble_eq_true rfl)
        have N405 := Fr.snoc X405 N403 g_b400
        have Z405 : n0 ≤ h405.size := Nat.le_trans Z403 (Keep.of_wr W405).1
        show Go _ _ _ _ _ _ _ T405 (mkF m 419 #[.val (.int ish), .val (.int ind), .val (.int iln), .val (.int ie0), .val (.int ie1), .val (.int ie2), .val (.int vp3), .val (.int vp4), .val (.int (1 : Int32)), .val (.int vn), .val (.int (2 : Int32)), .val (.int (1 : Int32)), .val (.int (0 : Int32)), .val (.ref b301), .val (.ref b308), .val (.ref b313), .val (.ref b321), .val (.ref b329), .val (.ref a18), .val (.int (4 : Int32)), .val (.int c0), .val (.int c1), .val (.int c2), .val (.int c3), .val (.ref b400), .unset] [])
        refine Go.step (fun _ k => XS.iload X405.here hx rfl (hb hby at_419) rfl k) ?_
        refine Go.step (fun _ k => XS.iconst X405.here hx rfl (hb hby at_421) k) ?_
        have hc422_406 : (2 : Int32) < (4 : Int32) := (by decide)
        refine Go.step (fun _ k => XS.icmpNo X405.here hx rfl (hb hby at_422) rfl (tlt hc422_406).2.2.2 k) ?_
        show Go _ _ _ _ _ _ _ T405 (mkF m 425 #[.val (.int ish), .val (.int ind), .val (.int iln), .val (.int ie0), .val (.int ie1), .val (.int ie2), .val (.int vp3), .val (.int vp4), .val (.int (1 : Int32)), .val (.int vn), .val (.int (2 : Int32)), .val (.int (1 : Int32)), .val (.int (0 : Int32)), .val (.ref b301), .val (.ref b308), .val (.ref b313), .val (.ref b321), .val (.ref b329), .val (.ref a18), .val (.int (4 : Int32)), .val (.int c0), .val (.int c1), .val (.int c2), .val (.int c3), .val (.ref b400), .unset] [])
        refine Go.step (fun _ k => XS.aload X405.here hx rfl (hb hby at_425) rfl rfl k) ?_
        refine Go.step (fun _ k => XS.iconst X405.here hx rfl (hb hby at_427) k) ?_
        refine Go.step (fun _ k => XS.iload X405.here hx rfl (hb hby at_428) rfl k) ?_
        obtain ⟨cl407, Ar407, q407, S407, M407, H407, G407⟩ := id (V405)
        have hin407 : ¬ ((2 : Int32) < 0 ∨ cl407.slots.size ≤ ((2 : Int32)).toNatClampNeg) := inb_of S407 ⟨by decide, by decide⟩
        obtain ⟨T407, h407, X407, e407, W407, st407⟩ := stI X405 hx hZ e405 Ar407 (j := (2 : Int32)) hin407 (g := (mkF m 430 #[.val (.int ish), .val (.int ind), .val (.int iln), .val (.int ie0), .val (.int ie1), .val (.int ie2), .val (.int vp3), .val (.int vp4), .val (.int (1 : Int32)), .val (.int vn), .val (.int (2 : Int32)), .val (.int (1 : Int32)), .val (.int (0 : Int32)), .val (.ref b301), .val (.ref b308), .val (.ref b313), .val (.ref b321), .val (.ref b329), .val (.ref a18), .val (.int (4 : Int32)), .val (.int c0), .val (.int c1), .val (.int c2), .val (.int c3), .val (.ref b400), .unset] [(.int c2), (.int (2 : Int32)), (.ref b400)])) rfl rfl (hb hby at_430)
        refine Go.step st407 ?_
        have V407 : Arv Z h407 b400 k400 .int (4 : Int32) [(.int c0), (.int c1), (.int c2), (.int (0 : Int32))] (.int (0 : Int32)) := Arv.set Ar407 q407 S407 M407 H407 G407 rfl W407 2 rfl (Nat.le_of_ble_eq_true rfl)
        have N407 := Fr.snoc X407 N405 g_b400
        have Z407 : n0 ≤ h407.size := Nat.le_trans Z405 (Keep.of_wr W407).1
        show Go _ _ _ _ _ _ _ T407 (mkF m 431 #[.val (.int ish), .val (.int ind), .val (.int iln), .val (.int ie0), .val (.int ie1), .val (.int ie2), .val (.int vp3), .val (.int vp4), .val (.int (1 : Int32)), .val (.int vn), .val (.int (2 : Int32)), .val (.int (1 : Int32)), .val (.int (0 : Int32)), .val (.ref b301), .val (.ref b308), .val (.ref b313), .val (.ref b321), .val (.ref b329), .val (.ref a18), .val (.int (4 : Int32)), .val (.int c0), .val (.int c1), .val (.int c2), .val (.int c3), .val (.ref b400), .unset] [])
        refine Go.step (fun _ k => XS.iload X407.here hx rfl (hb hby at_431) rfl k) ?_
        refine Go.step (fun _ k => XS.iconst X407.here hx rfl (hb hby at_433) k) ?_
        have hc434_408 : (3 : Int32) < (4 : Int32) := (by decide)
        refine Go.step (fun _ k => XS.icmpNo X407.here hx rfl (hb hby at_434) rfl (tlt hc434_408).2.2.2 k) ?_
        show Go _ _ _ _ _ _ _ T407 (mkF m 437 #[.val (.int ish), .val (.int ind), .val (.int iln), .val (.int ie0), .val (.int ie1), .val (.int ie2), .val (.int vp3), .val (.int vp4), .val (.int (1 : Int32)), .val (.int vn), .val (.int (2 : Int32)), .val (.int (1 : Int32)), .val (.int (0 : Int32)), .val (.ref b301), .val (.ref b308), .val (.ref b313), .val (.ref b321), .val (.ref b329), .val (.ref a18), .val (.int (4 : Int32)), .val (.int c0), .val (.int c1), .val (.int c2), .val (.int c3), .val (.ref b400), .unset] [])
        refine Go.step (fun _ k => XS.aload X407.here hx rfl (hb hby at_437) rfl rfl k) ?_
        refine Go.step (fun _ k => XS.iconst X407.here hx rfl (hb hby at_439) k) ?_
        refine Go.step (fun _ k => XS.iload X407.here hx rfl (hb hby at_440) rfl k) ?_
        obtain ⟨cl409, Ar409, q409, S409, M409, H409, G409⟩ := id (V407)
        have hin409 : ¬ ((3 : Int32) < 0 ∨ cl409.slots.size ≤ ((3 : Int32)).toNatClampNeg) := inb_of S409 ⟨by decide, by decide⟩
        obtain ⟨T409, h409, X409, e409, W409, st409⟩ := stI X407 hx hZ e407 Ar409 (j := (3 : Int32)) hin409 (g := (mkF m 442 #[.val (.int ish), .val (.int ind), .val (.int iln), .val (.int ie0), .val (.int ie1), .val (.int ie2), .val (.int vp3), .val (.int vp4), .val (.int (1 : Int32)), .val (.int vn), .val (.int (2 : Int32)), .val (.int (1 : Int32)), .val (.int (0 : Int32)), .val (.ref b301), .val (.ref b308), .val (.ref b313), .val (.ref b321), .val (.ref b329), .val (.ref a18), .val (.int (4 : Int32)), .val (.int c0), .val (.int c1), .val (.int c2), .val (.int c3), .val (.ref b400), .unset] [(.int c3), (.int (3 : Int32)), (.ref b400)])) rfl rfl (hb hby at_442)
        refine Go.step st409 ?_
        have V409 : Arv Z h409 b400 k400 .int (4 : Int32) [(.int c0), (.int c1), (.int c2), (.int c3)] (.int (0 : Int32)) := Arv.set Ar409 q409 S409 M409 H409 G409 rfl W409 3 rfl (Nat.le_of_ble_eq_true rfl)
        have N409 := Fr.snoc X409 N407 g_b400
        have Z409 : n0 ≤ h409.size := Nat.le_trans Z407 (Keep.of_wr W409).1
        show Go _ _ _ _ _ _ _ T409 (mkF m 443 #[.val (.int ish), .val (.int ind), .val (.int iln), .val (.int ie0), .val (.int ie1), .val (.int ie2), .val (.int vp3), .val (.int vp4), .val (.int (1 : Int32)), .val (.int vn), .val (.int (2 : Int32)), .val (.int (1 : Int32)), .val (.int (0 : Int32)), .val (.ref b301), .val (.ref b308), .val (.ref b313), .val (.ref b321), .val (.ref b329), .val (.ref a18), .val (.int (4 : Int32)), .val (.int c0), .val (.int c1), .val (.int c2), .val (.int c3), .val (.ref b400), .unset] [])
        refine Go.step (fun _ k => XS.aload X409.here hx rfl (hb hby at_443) rfl rfl k) ?_
        refine Go.step (fun _ k => XS.iload X409.here hx rfl (hb hby at_445) rfl k) ?_
        refine Go.step (fun _ k => XS.aload X409.here hx rfl (hb hby at_447) rfl rfl k) ?_
        have f411 : Exa Z h409 b329 "com/example/wayfront/wayfront/paths/ShortestPathTree" := (((((Ej.ext E400).wr W403).wr W405).wr W407).wr W409)
        have f412 : Fld Z h409 b329 "com/example/wayfront/wayfront/paths/ShortestPathTree" "predecessor" "[I" (.ref b301) := (((((Fpj.ext E400).other W403 (Or.inl ne_b329_b400)).other W405 (Or.inl ne_b329_b400)).other W407 (Or.inl ne_b329_b400)).other W409 (Or.inl ne_b329_b400))
        have f413 : Fld Z h409 b329 "com/example/wayfront/wayfront/paths/ShortestPathTree" "tail" "[I" (.ref b308) := (((((Ftj.ext E400).other W403 (Or.inl ne_b329_b400)).other W405 (Or.inl ne_b329_b400)).other W407 (Or.inl ne_b329_b400)).other W409 (Or.inl ne_b329_b400))
        have f414 : Arv Z h409 b301 k301 .int (5 : Int32) [(.int (-1 : Int32)), (.int (-1 : Int32)), (.int (2 : Int32)), (.int (1 : Int32)), (.int (0 : Int32))] (.int (0 : Int32)) := (((((Vpj.ext E400).other W403 ne_b301_b400).other W405 ne_b301_b400).other W407 ne_b301_b400).other W409 ne_b301_b400)
        have f415 : Arv Z h409 b308 k308 .int (3 : Int32) [(.int vp4), (.int vp3), (.int (1 : Int32))] (.int (0 : Int32)) := (((((Vtj.ext E400).other W403 ne_b308_b400).other W405 ne_b308_b400).other W407 ne_b308_b400).other W409 ne_b308_b400)
        obtain ⟨cq410, kq410, q410a, q410b, q410c⟩ := isOf hZ e409 f411
        obtain ⟨_, _, ⟨T410, L410, k410, n410⟩, -, X410, ⟨Lc410, hQ410, l410, y410, z410⟩, st410⟩ := X409.virtualBack hx (y := (⟨"com/example/wayfront/wayfront/paths/ShortestPathTree", "isPathTo", "(I[I)Z"⟩ : MethodName)) (z := (⟨"com/example/wayfront/wayfront/paths/ShortestPathTree", "isPathTo", "(I[I)Z"⟩ : MethodName)) hown (mvT hZ (hw _ (List.mem_of_getElem? (i := 28) rfl))) (mvT hZ (hw _ (List.mem_of_getElem? (i := 29) rfl))) (notFace_of_selects (args := #[]) (mvT hZ (hw _ (List.mem_of_getElem? (i := 31) rfl)))) (mvT hZ (hw _ (List.mem_of_getElem? (i := 31) rfl))) (mvT hZ (hw _ (List.mem_of_getElem? (i := 30) rfl))) (by decide) (backOf (W := 0) (rmIs l Z a0 hw [] b329 vn b400 b301 k301 ([(-1 : Int32), (-1 : Int32), (2 : Int32), (1 : Int32), (0 : Int32)] : List Int32) b308 k308 ([vp4, vp3, (1 : Int32)] : List Int32) k400 (4 : Int32) ([c0, c1, c2, c3] : List Int32) ls0 h409 n0 Z409 f411 f412 f413 f414 f415 V409 rfl rfl rfl (by decide) hchj) hZ (hw _ (List.mem_of_getElem? (i := 32) rfl)) (hw _ (List.mem_of_getElem? (i := 11) rfl)) (by decide) (by decide)) q410a q410c (g := (mkF m 449 #[.val (.int ish), .val (.int ind), .val (.int iln), .val (.int ie0), .val (.int ie1), .val (.int ie2), .val (.int vp3), .val (.int vp4), .val (.int (1 : Int32)), .val (.int vn), .val (.int (2 : Int32)), .val (.int (1 : Int32)), .val (.int (0 : Int32)), .val (.ref b301), .val (.ref b308), .val (.ref b313), .val (.ref b321), .val (.ref b329), .val (.ref a18), .val (.int (4 : Int32)), .val (.int c0), .val (.int c1), .val (.int c2), .val (.int c3), .val (.ref b400), .unset] [(.ref b400), (.int vn), (.ref b329)])) rfl (by rw [hml]; rfl) (Steps.refl _) (argsL := [(.int vn), (.ref b400)]) (rest := []) (lenOf pd__I_I_Z rfl) rfl (by show 2 * 0 + _ ≤ _; exact Nat.le_of_eq rfl) (hb hby at_449) (fun _ _ => ⟨rfl, e409, (by decide : 7 + 0 ≤ _), (by decide : 29 + 0 ≤ _)⟩)
        dsimp only [Pt.U, Pt.locs, Pt.cells, Pt.slots] at X410 l410 y410 z410 st410 hQ410
        subst l410 y410 z410
        obtain ⟨h410, e410⟩ : ∃ h, T410.heap = h := ⟨_, rfl⟩
        rw [e410] at hQ410
        obtain ⟨rfl, Nq410, hs410⟩ := hQ410
        have N410 := Fr.app N409 Nq410
        rw [hs410] at e410
        refine Go.trans st410 ?_
        show Go _ _ _ _ _ _ _ T410 (mkF m 452 #[.val (.int ish), .val (.int ind), .val (.int iln), .val (.int ie0), .val (.int ie1), .val (.int ie2), .val (.int vp3), .val (.int vp4), .val (.int (1 : Int32)), .val (.int vn), .val (.int (2 : Int32)), .val (.int (1 : Int32)), .val (.int (0 : Int32)), .val (.ref b301), .val (.ref b308), .val (.ref b313), .val (.ref b321), .val (.ref b329), .val (.ref a18), .val (.int (4 : Int32)), .val (.int c0), .val (.int c1), .val (.int c2), .val (.int c3), .val (.ref b400), .unset] [(.int (if ([c0, c1, c2, c3] : List Int32) = ls0.reverse then (1 : Int32) else 0))])
        refine Go.step (fun _ k => XS.istore X410.here hx rfl (hb hby at_452) rfl (l' := #[.val (.int ish), .val (.int ind), .val (.int iln), .val (.int ie0), .val (.int ie1), .val (.int ie2), .val (.int vp3), .val (.int vp4), .val (.int (1 : Int32)), .val (.int vn), .val (.int (2 : Int32)), .val (.int (1 : Int32)), .val (.int (0 : Int32)), .val (.ref b301), .val (.ref b308), .val (.ref b313), .val (.ref b321), .val (.ref b329), .val (.ref a18), .val (.int (4 : Int32)), .val (.int c0), .val (.int c1), .val (.int c2), .val (.int c3), .val (.ref b400), .val (.int (if ([c0, c1, c2, c3] : List Int32) = ls0.reverse then (1 : Int32) else 0))]) rfl k) ?_
        show Go _ _ _ _ _ _ _ T410 (mkF m 454 #[.val (.int ish), .val (.int ind), .val (.int iln), .val (.int ie0), .val (.int ie1), .val (.int ie2), .val (.int vp3), .val (.int vp4), .val (.int (1 : Int32)), .val (.int vn), .val (.int (2 : Int32)), .val (.int (1 : Int32)), .val (.int (0 : Int32)), .val (.ref b301), .val (.ref b308), .val (.ref b313), .val (.ref b321), .val (.ref b329), .val (.ref a18), .val (.int (4 : Int32)), .val (.int c0), .val (.int c1), .val (.int c2), .val (.int c3), .val (.ref b400), .val (.int (if ([c0, c1, c2, c3] : List Int32) = ls0.reverse then (1 : Int32) else 0))] [])
        refine Go.step (fun _ k => XS.iload X410.here hx rfl (hb hby at_454) rfl k) ?_
        refine Go.step (fun _ k => XS.aload X410.here hx rfl (hb hby at_456) rfl rfl k) ?_
        refine Go.step (fun _ k => XS.aload X410.here hx rfl (hb hby at_458) rfl rfl k) ?_
        have f417 : Arv Z h409 a18 k18 .int n18 (le.map Value.int) (.int (0 : Int32)) := (((((V8j.ext E400).other W403 ne_a18_b400).other W405 ne_a18_b400).other W407 ne_a18_b400).other W409 ne_a18_b400)
        obtain ⟨_, _, ⟨T416, L416, k416, n416⟩, -, X416, ⟨Lc416, hQ416, l416, y416, z416⟩, st416⟩ := Jvm.LawKit.callS X410 hx (y := (⟨"com/example/wayfront/wayfront/paths/ShortestPathTreeIsPathToPinLaw", "same", "([I[I)Z"⟩ : MethodName)) hown (mvT hZ (hw _ (List.mem_of_getElem? (i := 33) rfl))) (mvT hZ (hw _ (List.mem_of_getElem? (i := 34) rfl))) (mvT hZ (hw _ (List.mem_of_getElem? (i := 3) rfl))) (mvT hZ (hw _ (List.mem_of_getElem? (i := 35) rfl))) (by decide) (backOf (W := 1) (rmSa l Z a0 hw [] a18 b400 k18 n18 le k400 (4 : Int32) ([c0, c1, c2, c3] : List Int32) h409 n0 Z409 f417 V409 hle hn8 rfl (by decide) h48) hZ (hw _ (List.mem_of_getElem? (i := 35) rfl)) (hw _ (List.mem_of_getElem? (i := 3) rfl)) (by decide) (by decide)) (g := (mkF m 460 #[.val (.int ish), .val (.int ind), .val (.int iln), .val (.int ie0), .val (.int ie1), .val (.int ie2), .val (.int vp3), .val (.int vp4), .val (.int (1 : Int32)), .val (.int vn), .val (.int (2 : Int32)), .val (.int (1 : Int32)), .val (.int (0 : Int32)), .val (.ref b301), .val (.ref b308), .val (.ref b313), .val (.ref b321), .val (.ref b329), .val (.ref a18), .val (.int (4 : Int32)), .val (.int c0), .val (.int c1), .val (.int c2), .val (.int c3), .val (.ref b400), .val (.int (if ([c0, c1, c2, c3] : List Int32) = ls0.reverse then (1 : Int32) else 0))] [(.ref b400), (.ref a18), (.int (if ([c0, c1, c2, c3] : List Int32) = ls0.reverse then (1 : Int32) else 0))])) rfl (by rw [hml]; rfl) (argsL := [(.ref a18), (.ref b400)]) (rest := [(.int (if ([c0, c1, c2, c3] : List Int32) = ls0.reverse then (1 : Int32) else 0))]) (lenOf pd___I_I_Z rfl) rfl (by show 2 * 0 + _ ≤ _; exact Nat.le_of_eq rfl) (hb hby at_460) (fun _ _ => ⟨rfl, e410, (by decide : 7 + 0 ≤ _), (by decide : 29 + 0 ≤ _)⟩)
        dsimp only [Pt.U, Pt.locs, Pt.cells, Pt.slots] at X416 l416 y416 z416 st416 hQ416
        subst l416 y416 z416
        obtain ⟨h416, e416⟩ : ∃ h, T416.heap = h := ⟨_, rfl⟩
        rw [e416] at hQ416
        obtain ⟨rfl, Nq416, hs416⟩ := hQ416
        have N416 := Fr.app N410 Nq416
        rw [hs416] at e416
        refine Go.step st416 ?_
        show Go _ _ _ _ _ _ _ T416 (mkF m 463 #[.val (.int ish), .val (.int ind), .val (.int iln), .val (.int ie0), .val (.int ie1), .val (.int ie2), .val (.int vp3), .val (.int vp4), .val (.int (1 : Int32)), .val (.int vn), .val (.int (2 : Int32)), .val (.int (1 : Int32)), .val (.int (0 : Int32)), .val (.ref b301), .val (.ref b308), .val (.ref b313), .val (.ref b321), .val (.ref b329), .val (.ref a18), .val (.int (4 : Int32)), .val (.int c0), .val (.int c1), .val (.int c2), .val (.int c3), .val (.ref b400), .val (.int (if ([c0, c1, c2, c3] : List Int32) = ls0.reverse then (1 : Int32) else 0))] [(.int (if le = ([c0, c1, c2, c3] : List Int32) then (1 : Int32) else 0)), (.int (if ([c0, c1, c2, c3] : List Int32) = ls0.reverse then (1 : Int32) else 0))])
        have hc463_418 : (if ([c0, c1, c2, c3] : List Int32) = ls0.reverse then (1 : Int32) else 0) = (if le = ([c0, c1, c2, c3] : List Int32) then (1 : Int32) else 0) := (own_fin hrv)
        refine Go.step (fun _ k => XS.icmpNo X416.here hx rfl (hb hby at_463) rfl (teq hc463_418).2 k) ?_
        show Go _ _ _ _ _ _ _ T416 (mkF m 466 #[.val (.int ish), .val (.int ind), .val (.int iln), .val (.int ie0), .val (.int ie1), .val (.int ie2), .val (.int vp3), .val (.int vp4), .val (.int (1 : Int32)), .val (.int vn), .val (.int (2 : Int32)), .val (.int (1 : Int32)), .val (.int (0 : Int32)), .val (.ref b301), .val (.ref b308), .val (.ref b313), .val (.ref b321), .val (.ref b329), .val (.ref a18), .val (.int (4 : Int32)), .val (.int c0), .val (.int c1), .val (.int c2), .val (.int c3), .val (.ref b400), .val (.int (if ([c0, c1, c2, c3] : List Int32) = ls0.reverse then (1 : Int32) else 0))] [])
        refine Go.step (fun _ k => XS.iconst X416.here hx rfl (hb hby at_466) k) ?_
        refine Go.step (fun _ k => XS.goto X416.here hx rfl (pc0 := 467) (pc' := 471) rfl (hb hby at_467) (by decide) (by decide) k) ?_
        show Go _ _ _ _ _ _ _ T416 (mkF m 471 #[.val (.int ish), .val (.int ind), .val (.int iln), .val (.int ie0), .val (.int ie1), .val (.int ie2), .val (.int vp3), .val (.int vp4), .val (.int (1 : Int32)), .val (.int vn), .val (.int (2 : Int32)), .val (.int (1 : Int32)), .val (.int (0 : Int32)), .val (.ref b301), .val (.ref b308), .val (.ref b313), .val (.ref b321), .val (.ref b329), .val (.ref a18), .val (.int (4 : Int32)), .val (.int c0), .val (.int c1), .val (.int c2), .val (.int c3), .val (.ref b400), .val (.int (if ([c0, c1, c2, c3] : List Int32) = ls0.reverse then (1 : Int32) else 0))] [(.int (1 : Int32))])
        exact Go.retN X416 hx (t := .boolean) hret hlk (by simp) (hb hby at_471) e416 (by decide) (by decide) ⟨rfl, N416, trivial⟩
    show Go _ _ _ _ _ _ _ T333 (mkF m 185 #[.val (.int ish), .val (.int ind), .val (.int iln), .val (.int ie0), .val (.int ie1), .val (.int ie2), .val (.int vp3), .val (.int vp4), .val (.int (1 : Int32)), .val (.int vn), .val (.int (2 : Int32)), .val (.int (1 : Int32)), .val (.int (0 : Int32)), .val (.ref b301), .val (.ref b308), .val (.ref b313), .val (.ref b321), .val (.ref b329), .unset, .unset, .unset, .unset, .unset, .unset, .unset, .unset] [])
    refine Go.step (fun _ k => XS.iload X333.here hx rfl (hb hby at_185) rfl k) ?_
    refine Go.step (fun _ k => XS.iconst X333.here hx rfl (hb hby at_187) k) ?_
    by_cases hc188_419 : vn = (1 : Int32)
    · refine Go.step (fun _ k => XS.icmpNo X333.here hx rfl (hb hby at_188) rfl (teq hc188_419).2 k) ?_
      show Go _ _ _ _ _ _ _ T333 (mkF m 191 #[.val (.int ish), .val (.int ind), .val (.int iln), .val (.int ie0), .val (.int ie1), .val (.int ie2), .val (.int vp3), .val (.int vp4), .val (.int (1 : Int32)), .val (.int vn), .val (.int (2 : Int32)), .val (.int (1 : Int32)), .val (.int (0 : Int32)), .val (.ref b301), .val (.ref b308), .val (.ref b313), .val (.ref b321), .val (.ref b329), .unset, .unset, .unset, .unset, .unset, .unset, .unset, .unset] [])
      refine Go.step (fun _ k => XS.iconst X333.here hx rfl (hb hby at_191) k) ?_
      have f421 : Arv Z h333 b301 k301 .int (5 : Int32) [(.int (-1 : Int32)), (.int (-1 : Int32)), (.int (2 : Int32)), (.int (1 : Int32)), (.int (0 : Int32))] (.int (0 : Int32)) := ((f330.ext E329).keep Kq333 (ninS ne_b301_b329 nin0))
      have f422 : Arv Z h333 b308 k308 .int (3 : Int32) [(.int vp4), (.int vp3), (.int (1 : Int32))] (.int (0 : Int32)) := ((f331.ext E329).keep Kq333 (ninS ne_b308_b329 nin0))
      have f423 : Arv Z h333 b313 k313 .double (5 : Int32) [(.double (0 : UInt64)), (.double (0 : UInt64)), (.double (4607182418800017408 : UInt64)), (.double (4611686018427387904 : UInt64)), (.double (4613937818241073152 : UInt64))] (.double (0 : UInt64)) := ((f332.ext E329).keep Kq333 (ninS ne_b313_b329 nin0))
      have f424 : Arv Z h333 b321 k321 .int (4 : Int32) [(.int (1 : Int32)), (.int (2 : Int32)), (.int (3 : Int32)), (.int (4 : Int32))] (.int (0 : Int32)) := ((V328.ext E329).keep Kq333 (ninS ne_b321_b329 nin0))
      obtain ⟨T420, h420, k420, X420, e420, E420, A420, st420⟩ := newP X333 hx hZ (hw _ (List.mem_of_getElem? (i := 5) rfl)) e333 (g := (mkF m 192 #[.val (.int ish), .val (.int ind), .val (.int iln), .val (.int ie0), .val (.int ie1), .val (.int ie2), .val (.int vp3), .val (.int vp4), .val (.int (1 : Int32)), .val (.int vn), .val (.int (2 : Int32)), .val (.int (1 : Int32)), .val (.int (0 : Int32)), .val (.ref b301), .val (.ref b308), .val (.ref b313), .val (.ref b321), .val (.ref b329), .unset, .unset, .unset, .unset, .unset, .unset, .unset, .unset] [(.int (0 : Int32))])) rfl (hb hby at_192) rfl (by decide) (cap := 0) (by decide) (by decide) (by decide) (by decide)
      obtain ⟨b420, g420⟩ : ∃ z, z = h333.size := ⟨_, rfl⟩
      rw [← g420] at A420 st420
      refine Go.step st420 ?_
      have g_b420 : n0 ≤ b420 := Nat.le_trans Z333 (Nat.le_of_eq g420.symm)
      have ne_b301_b420 : b301 ≠ b420 := Nat.ne_of_lt (Nat.lt_of_lt_of_le f421.lt (Nat.le_of_eq g420.symm))
      have ne_b308_b420 : b308 ≠ b420 := Nat.ne_of_lt (Nat.lt_of_lt_of_le f422.lt (Nat.le_of_eq g420.symm))
      have ne_b313_b420 : b313 ≠ b420 := Nat.ne_of_lt (Nat.lt_of_lt_of_le f423.lt (Nat.le_of_eq g420.symm))
      have ne_b321_b420 : b321 ≠ b420 := Nat.ne_of_lt (Nat.lt_of_lt_of_le f424.lt (Nat.le_of_eq g420.symm))
      have ne_b329_b420 : b329 ≠ b420 := Nat.ne_of_lt (Nat.lt_of_lt_of_le E1_333.lt (Nat.le_of_eq g420.symm))
      have Z420 : n0 ≤ h420.size := Nat.le_trans Z333 E420.1
      have V420 : Arv Z h420 b420 k420 .int (0 : Int32) [] (.int (0 : Int32)) := Arv.new A420 (by decide)
      have V425 : Arv Z h420 b420 k420 .int (0 : Int32) [] (.int (0 : Int32)) := (V420).pad (pad_rep [] (.int (0 : Int32)) 0)
      show Go _ _ _ _ _ _ _ T420 (mkF m 194 #[.val (.int ish), .val (.int ind), .val (.int iln), .val (.int ie0), .val (.int ie1), .val (.int ie2), .val (.int vp3), .val (.int vp4), .val (.int (1 : Int32)), .val (.int vn), .val (.int (2 : Int32)), .val (.int (1 : Int32)), .val (.int (0 : Int32)), .val (.ref b301), .val (.ref b308), .val (.ref b313), .val (.ref b321), .val (.ref b329), .unset, .unset, .unset, .unset, .unset, .unset, .unset, .unset] [(.ref b420)])
      refine Go.step (fun _ k => XS.astore X420.here hx rfl (hb hby at_194) rfl rfl (l' := #[.val (.int ish), .val (.int ind), .val (.int iln), .val (.int ie0), .val (.int ie1), .val (.int ie2), .val (.int vp3), .val (.int vp4), .val (.int (1 : Int32)), .val (.int vn), .val (.int (2 : Int32)), .val (.int (1 : Int32)), .val (.int (0 : Int32)), .val (.ref b301), .val (.ref b308), .val (.ref b313), .val (.ref b321), .val (.ref b329), .val (.ref b420), .unset, .unset, .unset, .unset, .unset, .unset, .unset]) rfl k) ?_
      show Go _ _ _ _ _ _ _ T420 (mkF m 196 #[.val (.int ish), .val (.int ind), .val (.int iln), .val (.int ie0), .val (.int ie1), .val (.int ie2), .val (.int vp3), .val (.int vp4), .val (.int (1 : Int32)), .val (.int vn), .val (.int (2 : Int32)), .val (.int (1 : Int32)), .val (.int (0 : Int32)), .val (.ref b301), .val (.ref b308), .val (.ref b313), .val (.ref b321), .val (.ref b329), .val (.ref b420), .unset, .unset, .unset, .unset, .unset, .unset, .unset] [])
      refine Go.step (fun _ k => XS.goto X420.here hx rfl (pc0 := 196) (pc' := 348) rfl (hb hby at_196) (by decide) (by decide) k) ?_
      show Go _ _ _ _ _ _ _ T420 (mkF m 348 #[.val (.int ish), .val (.int ind), .val (.int iln), .val (.int ie0), .val (.int ie1), .val (.int ie2), .val (.int vp3), .val (.int vp4), .val (.int (1 : Int32)), .val (.int vn), .val (.int (2 : Int32)), .val (.int (1 : Int32)), .val (.int (0 : Int32)), .val (.ref b301), .val (.ref b308), .val (.ref b313), .val (.ref b321), .val (.ref b329), .val (.ref b420), .unset, .unset, .unset, .unset, .unset, .unset, .unset] [])
      have f426 : Exa Z h420 b329 "com/example/wayfront/wayfront/paths/ShortestPathTree" := (E1_333.ext E420)
      have f427 : Fld Z h420 b329 "com/example/wayfront/wayfront/paths/ShortestPathTree" "predecessor" "[I" (.ref b301) := (Fp_333.ext E420)
      have f428 : Fld Z h420 b329 "com/example/wayfront/wayfront/paths/ShortestPathTree" "tail" "[I" (.ref b308) := (Ft_333.ext E420)
      have f429 : Arv Z h420 b301 k301 .int (5 : Int32) [(.int (-1 : Int32)), (.int (-1 : Int32)), (.int (2 : Int32)), (.int (1 : Int32)), (.int (0 : Int32))] (.int (0 : Int32)) := (f421.ext E420)
      have f430 : Arv Z h420 b308 k308 .int (3 : Int32) [(.int vp4), (.int vp3), (.int (1 : Int32))] (.int (0 : Int32)) := (f422.ext E420)
      exact J T420 h420 _ b420 k420 (0 : Int32) ([] : List Int32) ([] : List Int32) (X420.more (by decide) (by decide)) e420 N333 Z420 f426 f427 f428 f429 f430 V425 rfl (by decide) (by decide) rfl (by have e_vn : vn = 1 := hc188_419; rw [e_vn]; exact ⟨(show 0 ≤ (1 : Int32).toInt ∧ (1 : Int32).toInt < 5 from by decide), (show (-1 : Int32) < 0 from by decide)⟩)
    · refine Go.step (fun _ k => XS.icmpYes X333.here hx rfl (pc0 := 188) (pc' := 199) rfl (hb hby at_188) rfl (feq hc188_419).2 (by decide) (by decide) k) ?_
      show Go _ _ _ _ _ _ _ T333 (mkF m 199 #[.val (.int ish), .val (.int ind), .val (.int iln), .val (.int ie0), .val (.int ie1), .val (.int ie2), .val (.int vp3), .val (.int vp4), .val (.int (1 : Int32)), .val (.int vn), .val (.int (2 : Int32)), .val (.int (1 : Int32)), .val (.int (0 : Int32)), .val (.ref b301), .val (.ref b308), .val (.ref b313), .val (.ref b321), .val (.ref b329), .unset, .unset, .unset, .unset, .unset, .unset, .unset, .unset] [])
      refine Go.step (fun _ k => XS.iload X333.here hx rfl (hb hby at_199) rfl k) ?_
      refine Go.step (fun _ k => XS.iconst X333.here hx rfl (hb hby at_201) k) ?_
      by_cases hc202_431 : vn = (2 : Int32)
      · refine Go.step (fun _ k => XS.icmpNo X333.here hx rfl (hb hby at_202) rfl (teq hc202_431).2 k) ?_
        show Go _ _ _ _ _ _ _ T333 (mkF m 205 #[.val (.int ish), .val (.int ind), .val (.int iln), .val (.int ie0), .val (.int ie1), .val (.int ie2), .val (.int vp3), .val (.int vp4), .val (.int (1 : Int32)), .val (.int vn), .val (.int (2 : Int32)), .val (.int (1 : Int32)), .val (.int (0 : Int32)), .val (.ref b301), .val (.ref b308), .val (.ref b313), .val (.ref b321), .val (.ref b329), .unset, .unset, .unset, .unset, .unset, .unset, .unset, .unset] [])
        refine Go.step (fun _ k => XS.iconst X333.here hx rfl (hb hby at_205) k) ?_
        have f433 : Arv Z h333 b301 k301 .int (5 : Int32) [(.int (-1 : Int32)), (.int (-1 : Int32)), (.int (2 : Int32)), (.int (1 : Int32)), (.int (0 : Int32))] (.int (0 : Int32)) := ((f330.ext E329).keep Kq333 (ninS ne_b301_b329 nin0))
        have f434 : Arv Z h333 b308 k308 .int (3 : Int32) [(.int vp4), (.int vp3), (.int (1 : Int32))] (.int (0 : Int32)) := ((f331.ext E329).keep Kq333 (ninS ne_b308_b329 nin0))
        have f435 : Arv Z h333 b313 k313 .double (5 : Int32) [(.double (0 : UInt64)), (.double (0 : UInt64)), (.double (4607182418800017408 : UInt64)), (.double (4611686018427387904 : UInt64)), (.double (4613937818241073152 : UInt64))] (.double (0 : UInt64)) := ((f332.ext E329).keep Kq333 (ninS ne_b313_b329 nin0))
        have f436 : Arv Z h333 b321 k321 .int (4 : Int32) [(.int (1 : Int32)), (.int (2 : Int32)), (.int (3 : Int32)), (.int (4 : Int32))] (.int (0 : Int32)) := ((V328.ext E329).keep Kq333 (ninS ne_b321_b329 nin0))
        obtain ⟨T432, h432, k432, X432, e432, E432, A432, st432⟩ := newP X333 hx hZ (hw _ (List.mem_of_getElem? (i := 5) rfl)) e333 (g := (mkF m 206 #[.val (.int ish), .val (.int ind), .val (.int iln), .val (.int ie0), .val (.int ie1), .val (.int ie2), .val (.int vp3), .val (.int vp4), .val (.int (1 : Int32)), .val (.int vn), .val (.int (2 : Int32)), .val (.int (1 : Int32)), .val (.int (0 : Int32)), .val (.ref b301), .val (.ref b308), .val (.ref b313), .val (.ref b321), .val (.ref b329), .unset, .unset, .unset, .unset, .unset, .unset, .unset, .unset] [(.int (1 : Int32))])) rfl (hb hby at_206) rfl (by decide) (cap := 1) (by decide) (by decide) (by decide) (by decide)
        obtain ⟨b432, g432⟩ : ∃ z, z = h333.size := ⟨_, rfl⟩
        rw [← g432] at A432 st432
        refine Go.step st432 ?_
        have g_b432 : n0 ≤ b432 := Nat.le_trans Z333 (Nat.le_of_eq g432.symm)
        have ne_b301_b432 : b301 ≠ b432 := Nat.ne_of_lt (Nat.lt_of_lt_of_le f433.lt (Nat.le_of_eq g432.symm))
        have ne_b308_b432 : b308 ≠ b432 := Nat.ne_of_lt (Nat.lt_of_lt_of_le f434.lt (Nat.le_of_eq g432.symm))
        have ne_b313_b432 : b313 ≠ b432 := Nat.ne_of_lt (Nat.lt_of_lt_of_le f435.lt (Nat.le_of_eq g432.symm))
        have ne_b321_b432 : b321 ≠ b432 := Nat.ne_of_lt (Nat.lt_of_lt_of_le f436.lt (Nat.le_of_eq g432.symm))
        have ne_b329_b432 : b329 ≠ b432 := Nat.ne_of_lt (Nat.lt_of_lt_of_le E1_333.lt (Nat.le_of_eq g432.symm))
        have Z432 : n0 ≤ h432.size := Nat.le_trans Z333 E432.1
        have V432 : Arv Z h432 b432 k432 .int (1 : Int32) [] (.int (0 : Int32)) := Arv.new A432 (by decide)
        have V437 : Arv Z h432 b432 k432 .int (1 : Int32) [(.int (0 : Int32))] (.int (0 : Int32)) := (V432).pad (pad_rep [] (.int (0 : Int32)) 1)
        show Go _ _ _ _ _ _ _ T432 (mkF m 208 #[.val (.int ish), .val (.int ind), .val (.int iln), .val (.int ie0), .val (.int ie1), .val (.int ie2), .val (.int vp3), .val (.int vp4), .val (.int (1 : Int32)), .val (.int vn), .val (.int (2 : Int32)), .val (.int (1 : Int32)), .val (.int (0 : Int32)), .val (.ref b301), .val (.ref b308), .val (.ref b313), .val (.ref b321), .val (.ref b329), .unset, .unset, .unset, .unset, .unset, .unset, .unset, .unset] [(.ref b432)])
        refine Go.step (fun _ k => XS.dup X432.here hx rfl (hb hby at_208) rfl rfl k) ?_
        refine Go.step (fun _ k => XS.iconst X432.here hx rfl (hb hby at_209) k) ?_
        refine Go.step (fun _ k => XS.iload X432.here hx rfl (hb hby at_210) rfl k) ?_
        obtain ⟨cl438, Ar438, q438, S438, M438, H438, G438⟩ := id (V437)
        have hin438 : ¬ ((0 : Int32) < 0 ∨ cl438.slots.size ≤ ((0 : Int32)).toNatClampNeg) := inb_of S438 ⟨by decide, by decide⟩
        obtain ⟨T438, h438, X438, e438, W438, st438⟩ := stI X432 hx hZ e432 Ar438 (j := (0 : Int32)) hin438 (g := (mkF m 212 #[.val (.int ish), .val (.int ind), .val (.int iln), .val (.int ie0), .val (.int ie1), .val (.int ie2), .val (.int vp3), .val (.int vp4), .val (.int (1 : Int32)), .val (.int vn), .val (.int (2 : Int32)), .val (.int (1 : Int32)), .val (.int (0 : Int32)), .val (.ref b301), .val (.ref b308), .val (.ref b313), .val (.ref b321), .val (.ref b329), .unset, .unset, .unset, .unset, .unset, .unset, .unset, .unset] [(.int (2 : Int32)), (.int (0 : Int32)), (.ref b432), (.ref b432)])) rfl rfl (hb hby at_212)
        refine Go.step st438 ?_
        have V438 : Arv Z h438 b432 k432 .int (1 : Int32) [(.int (2 : Int32))] (.int (0 : Int32)) := Arv.set Ar438 q438 S438 M438 H438 G438 rfl W438 0 rfl (Nat.le_of_ble_eq_true rfl)
        have N438 := Fr.snoc X438 N333 g_b432
        have Z438 : n0 ≤ h438.size := Nat.le_trans Z432 (Keep.of_wr W438).1
        show Go _ _ _ _ _ _ _ T438 (mkF m 213 #[.val (.int ish), .val (.int ind), .val (.int iln), .val (.int ie0), .val (.int ie1), .val (.int ie2), .val (.int vp3), .val (.int vp4), .val (.int (1 : Int32)), .val (.int vn), .val (.int (2 : Int32)), .val (.int (1 : Int32)), .val (.int (0 : Int32)), .val (.ref b301), .val (.ref b308), .val (.ref b313), .val (.ref b321), .val (.ref b329), .unset, .unset, .unset, .unset, .unset, .unset, .unset, .unset] [(.ref b432)])
        refine Go.step (fun _ k => XS.astore X438.here hx rfl (hb hby at_213) rfl rfl (l' := #[.val (.int ish), .val (.int ind), .val (.int iln), .val (.int ie0), .val (.int ie1), .val (.int ie2), .val (.int vp3), .val (.int vp4), .val (.int (1 : Int32)), .val (.int vn), .val (.int (2 : Int32)), .val (.int (1 : Int32)), .val (.int (0 : Int32)), .val (.ref b301), .val (.ref b308), .val (.ref b313), .val (.ref b321), .val (.ref b329), .val (.ref b432), .unset, .unset, .unset, .unset, .unset, .unset, .unset]) rfl k) ?_
        show Go _ _ _ _ _ _ _ T438 (mkF m 215 #[.val (.int ish), .val (.int ind), .val (.int iln), .val (.int ie0), .val (.int ie1), .val (.int ie2), .val (.int vp3), .val (.int vp4), .val (.int (1 : Int32)), .val (.int vn), .val (.int (2 : Int32)), .val (.int (1 : Int32)), .val (.int (0 : Int32)), .val (.ref b301), .val (.ref b308), .val (.ref b313), .val (.ref b321), .val (.ref b329), .val (.ref b432), .unset, .unset, .unset, .unset, .unset, .unset, .unset] [])
        refine Go.step (fun _ k => XS.goto X438.here hx rfl (pc0 := 215) (pc' := 348) rfl (hb hby at_215) (by decide) (by decide) k) ?_
        show Go _ _ _ _ _ _ _ T438 (mkF m 348 #[.val (.int ish), .val (.int ind), .val (.int iln), .val (.int ie0), .val (.int ie1), .val (.int ie2), .val (.int vp3), .val (.int vp4), .val (.int (1 : Int32)), .val (.int vn), .val (.int (2 : Int32)), .val (.int (1 : Int32)), .val (.int (0 : Int32)), .val (.ref b301), .val (.ref b308), .val (.ref b313), .val (.ref b321), .val (.ref b329), .val (.ref b432), .unset, .unset, .unset, .unset, .unset, .unset, .unset] [])
        have f439 : Exa Z h438 b329 "com/example/wayfront/wayfront/paths/ShortestPathTree" := ((E1_333.ext E432).wr W438)
        have f440 : Fld Z h438 b329 "com/example/wayfront/wayfront/paths/ShortestPathTree" "predecessor" "[I" (.ref b301) := ((Fp_333.ext E432).other W438 (Or.inl ne_b329_b432))
        have f441 : Fld Z h438 b329 "com/example/wayfront/wayfront/paths/ShortestPathTree" "tail" "[I" (.ref b308) := ((Ft_333.ext E432).other W438 (Or.inl ne_b329_b432))
        have f442 : Arv Z h438 b301 k301 .int (5 : Int32) [(.int (-1 : Int32)), (.int (-1 : Int32)), (.int (2 : Int32)), (.int (1 : Int32)), (.int (0 : Int32))] (.int (0 : Int32)) := ((f433.ext E432).other W438 ne_b301_b432)
        have f443 : Arv Z h438 b308 k308 .int (3 : Int32) [(.int vp4), (.int vp3), (.int (1 : Int32))] (.int (0 : Int32)) := ((f434.ext E432).other W438 ne_b308_b432)
        exact J T438 h438 _ b432 k432 (1 : Int32) ([(2 : Int32)] : List Int32) ([2] : List Int32) (X438.more (by decide) (by decide)) e438 N438 Z438 f439 f440 f441 f442 f443 V438 rfl (by decide) (by decide) rfl (by have e_vn : vn = 2 := hc202_431; rw [e_vn]; exact ⟨(show 0 ≤ (2 : Int32).toInt ∧ (2 : Int32).toInt < 5 from by decide), rfl, (show 0 ≤ (2 : Int32).toInt ∧ (2 : Int32).toInt < 3 from by decide), ⟨(show 0 ≤ (1 : Int32).toInt ∧ (1 : Int32).toInt < 5 from by decide), (show (-1 : Int32) < 0 from by decide)⟩⟩)
      · refine Go.step (fun _ k => XS.icmpYes X333.here hx rfl (pc0 := 202) (pc' := 218) rfl (hb hby at_202) rfl (feq hc202_431).2 (by decide) (by decide) k) ?_
        show Go _ _ _ _ _ _ _ T333 (mkF m 218 #[.val (.int ish), .val (.int ind), .val (.int iln), .val (.int ie0), .val (.int ie1), .val (.int ie2), .val (.int vp3), .val (.int vp4), .val (.int (1 : Int32)), .val (.int vn), .val (.int (2 : Int32)), .val (.int (1 : Int32)), .val (.int (0 : Int32)), .val (.ref b301), .val (.ref b308), .val (.ref b313), .val (.ref b321), .val (.ref b329), .unset, .unset, .unset, .unset, .unset, .unset, .unset, .unset] [])
        refine Go.step (fun _ k => XS.iload X333.here hx rfl (hb hby at_218) rfl k) ?_
        refine Go.step (fun _ k => XS.iconst X333.here hx rfl (hb hby at_220) k) ?_
        by_cases hc221_444 : vn = (3 : Int32)
        · refine Go.step (fun _ k => XS.icmpNo X333.here hx rfl (hb hby at_221) rfl (teq hc221_444).2 k) ?_
          show Go _ _ _ _ _ _ _ T333 (mkF m 224 #[.val (.int ish), .val (.int ind), .val (.int iln), .val (.int ie0), .val (.int ie1), .val (.int ie2), .val (.int vp3), .val (.int vp4), .val (.int (1 : Int32)), .val (.int vn), .val (.int (2 : Int32)), .val (.int (1 : Int32)), .val (.int (0 : Int32)), .val (.ref b301), .val (.ref b308), .val (.ref b313), .val (.ref b321), .val (.ref b329), .unset, .unset, .unset, .unset, .unset, .unset, .unset, .unset] [])
          refine Go.step (fun _ k => XS.iload X333.here hx rfl (hb hby at_224) rfl k) ?_
          refine Go.step (fun _ k => XS.iconst X333.here hx rfl (hb hby at_226) k) ?_
          by_cases hc227_445 : vp3 = (1 : Int32)
          · refine Go.step (fun _ k => XS.icmpNo X333.here hx rfl (hb hby at_227) rfl (teq hc227_445).2 k) ?_
            show Go _ _ _ _ _ _ _ T333 (mkF m 230 #[.val (.int ish), .val (.int ind), .val (.int iln), .val (.int ie0), .val (.int ie1), .val (.int ie2), .val (.int vp3), .val (.int vp4), .val (.int (1 : Int32)), .val (.int vn), .val (.int (2 : Int32)), .val (.int (1 : Int32)), .val (.int (0 : Int32)), .val (.ref b301), .val (.ref b308), .val (.ref b313), .val (.ref b321), .val (.ref b329), .unset, .unset, .unset, .unset, .unset, .unset, .unset, .unset] [])
            refine Go.step (fun _ k => XS.iconst X333.here hx rfl (hb hby at_230) k) ?_
            have f447 : Arv Z h333 b301 k301 .int (5 : Int32) [(.int (-1 : Int32)), (.int (-1 : Int32)), (.int (2 : Int32)), (.int (1 : Int32)), (.int (0 : Int32))] (.int (0 : Int32)) := ((f330.ext E329).keep Kq333 (ninS ne_b301_b329 nin0))
            have f448 : Arv Z h333 b308 k308 .int (3 : Int32) [(.int vp4), (.int vp3), (.int (1 : Int32))] (.int (0 : Int32)) := ((f331.ext E329).keep Kq333 (ninS ne_b308_b329 nin0))
            have f449 : Arv Z h333 b313 k313 .double (5 : Int32) [(.double (0 : UInt64)), (.double (0 : UInt64)), (.double (4607182418800017408 : UInt64)), (.double (4611686018427387904 : UInt64)), (.double (4613937818241073152 : UInt64))] (.double (0 : UInt64)) := ((f332.ext E329).keep Kq333 (ninS ne_b313_b329 nin0))
            have f450 : Arv Z h333 b321 k321 .int (4 : Int32) [(.int (1 : Int32)), (.int (2 : Int32)), (.int (3 : Int32)), (.int (4 : Int32))] (.int (0 : Int32)) := ((V328.ext E329).keep Kq333 (ninS ne_b321_b329 nin0))
            obtain ⟨T446, h446, k446, X446, e446, E446, A446, st446⟩ := newP X333 hx hZ (hw _ (List.mem_of_getElem? (i := 5) rfl)) e333 (g := (mkF m 231 #[.val (.int ish), .val (.int ind), .val (.int iln), .val (.int ie0), .val (.int ie1), .val (.int ie2), .val (.int vp3), .val (.int vp4), .val (.int (1 : Int32)), .val (.int vn), .val (.int (2 : Int32)), .val (.int (1 : Int32)), .val (.int (0 : Int32)), .val (.ref b301), .val (.ref b308), .val (.ref b313), .val (.ref b321), .val (.ref b329), .unset, .unset, .unset, .unset, .unset, .unset, .unset, .unset] [(.int (1 : Int32))])) rfl (hb hby at_231) rfl (by decide) (cap := 1) (by decide) (by decide) (by decide) (by decide)
            obtain ⟨b446, g446⟩ : ∃ z, z = h333.size := ⟨_, rfl⟩
            rw [← g446] at A446 st446
            refine Go.step st446 ?_
            have g_b446 : n0 ≤ b446 := Nat.le_trans Z333 (Nat.le_of_eq g446.symm)
            have ne_b301_b446 : b301 ≠ b446 := Nat.ne_of_lt (Nat.lt_of_lt_of_le f447.lt (Nat.le_of_eq g446.symm))
            have ne_b308_b446 : b308 ≠ b446 := Nat.ne_of_lt (Nat.lt_of_lt_of_le f448.lt (Nat.le_of_eq g446.symm))
            have ne_b313_b446 : b313 ≠ b446 := Nat.ne_of_lt (Nat.lt_of_lt_of_le f449.lt (Nat.le_of_eq g446.symm))
            have ne_b321_b446 : b321 ≠ b446 := Nat.ne_of_lt (Nat.lt_of_lt_of_le f450.lt (Nat.le_of_eq g446.symm))
            have ne_b329_b446 : b329 ≠ b446 := Nat.ne_of_lt (Nat.lt_of_lt_of_le E1_333.lt (Nat.le_of_eq g446.symm))
            have Z446 : n0 ≤ h446.size := Nat.le_trans Z333 E446.1
            have V446 : Arv Z h446 b446 k446 .int (1 : Int32) [] (.int (0 : Int32)) := Arv.new A446 (by decide)
            have V451 : Arv Z h446 b446 k446 .int (1 : Int32) [(.int (0 : Int32))] (.int (0 : Int32)) := (V446).pad (pad_rep [] (.int (0 : Int32)) 1)
            show Go _ _ _ _ _ _ _ T446 (mkF m 233 #[.val (.int ish), .val (.int ind), .val (.int iln), .val (.int ie0), .val (.int ie1), .val (.int ie2), .val (.int vp3), .val (.int vp4), .val (.int (1 : Int32)), .val (.int vn), .val (.int (2 : Int32)), .val (.int (1 : Int32)), .val (.int (0 : Int32)), .val (.ref b301), .val (.ref b308), .val (.ref b313), .val (.ref b321), .val (.ref b329), .unset, .unset, .unset, .unset, .unset, .unset, .unset, .unset] [(.ref b446)])
            refine Go.step (fun _ k => XS.dup X446.here hx rfl (hb hby at_233) rfl rfl k) ?_
            refine Go.step (fun _ k => XS.iconst X446.here hx rfl (hb hby at_234) k) ?_
            refine Go.step (fun _ k => XS.iload X446.here hx rfl (hb hby at_235) rfl k) ?_
            obtain ⟨cl452, Ar452, q452, S452, M452, H452, G452⟩ := id (V451)
            have hin452 : ¬ ((0 : Int32) < 0 ∨ cl452.slots.size ≤ ((0 : Int32)).toNatClampNeg) := inb_of S452 ⟨by decide, by decide⟩
            obtain ⟨T452, h452, X452, e452, W452, st452⟩ := stI X446 hx hZ e446 Ar452 (j := (0 : Int32)) hin452 (g := (mkF m 237 #[.val (.int ish), .val (.int ind), .val (.int iln), .val (.int ie0), .val (.int ie1), .val (.int ie2), .val (.int vp3), .val (.int vp4), .val (.int (1 : Int32)), .val (.int vn), .val (.int (2 : Int32)), .val (.int (1 : Int32)), .val (.int (0 : Int32)), .val (.ref b301), .val (.ref b308), .val (.ref b313), .val (.ref b321), .val (.ref b329), .unset, .unset, .unset, .unset, .unset, .unset, .unset, .unset] [(.int (1 : Int32)), (.int (0 : Int32)), (.ref b446), (.ref b446)])) rfl rfl (hb hby at_237)
            refine Go.step st452 ?_
            have V452 : Arv Z h452 b446 k446 .int (1 : Int32) [(.int (1 : Int32))] (.int (0 : Int32)) := Arv.set Ar452 q452 S452 M452 H452 G452 rfl W452 0 rfl (Nat.le_of_ble_eq_true rfl)
            have N452 := Fr.snoc X452 N333 g_b446
            have Z452 : n0 ≤ h452.size := Nat.le_trans Z446 (Keep.of_wr W452).1
            show Go _ _ _ _ _ _ _ T452 (mkF m 238 #[.val (.int ish), .val (.int ind), .val (.int iln), .val (.int ie0), .val (.int ie1), .val (.int ie2), .val (.int vp3), .val (.int vp4), .val (.int (1 : Int32)), .val (.int vn), .val (.int (2 : Int32)), .val (.int (1 : Int32)), .val (.int (0 : Int32)), .val (.ref b301), .val (.ref b308), .val (.ref b313), .val (.ref b321), .val (.ref b329), .unset, .unset, .unset, .unset, .unset, .unset, .unset, .unset] [(.ref b446)])
            refine Go.step (fun _ k => XS.astore X452.here hx rfl (hb hby at_238) rfl rfl (l' := #[.val (.int ish), .val (.int ind), .val (.int iln), .val (.int ie0), .val (.int ie1), .val (.int ie2), .val (.int vp3), .val (.int vp4), .val (.int (1 : Int32)), .val (.int vn), .val (.int (2 : Int32)), .val (.int (1 : Int32)), .val (.int (0 : Int32)), .val (.ref b301), .val (.ref b308), .val (.ref b313), .val (.ref b321), .val (.ref b329), .val (.ref b446), .unset, .unset, .unset, .unset, .unset, .unset, .unset]) rfl k) ?_
            show Go _ _ _ _ _ _ _ T452 (mkF m 240 #[.val (.int ish), .val (.int ind), .val (.int iln), .val (.int ie0), .val (.int ie1), .val (.int ie2), .val (.int vp3), .val (.int vp4), .val (.int (1 : Int32)), .val (.int vn), .val (.int (2 : Int32)), .val (.int (1 : Int32)), .val (.int (0 : Int32)), .val (.ref b301), .val (.ref b308), .val (.ref b313), .val (.ref b321), .val (.ref b329), .val (.ref b446), .unset, .unset, .unset, .unset, .unset, .unset, .unset] [])
            refine Go.step (fun _ k => XS.goto X452.here hx rfl (pc0 := 240) (pc' := 348) rfl (hb hby at_240) (by decide) (by decide) k) ?_
            show Go _ _ _ _ _ _ _ T452 (mkF m 348 #[.val (.int ish), .val (.int ind), .val (.int iln), .val (.int ie0), .val (.int ie1), .val (.int ie2), .val (.int vp3), .val (.int vp4), .val (.int (1 : Int32)), .val (.int vn), .val (.int (2 : Int32)), .val (.int (1 : Int32)), .val (.int (0 : Int32)), .val (.ref b301), .val (.ref b308), .val (.ref b313), .val (.ref b321), .val (.ref b329), .val (.ref b446), .unset, .unset, .unset, .unset, .unset, .unset, .unset] [])
            have f453 : Exa Z h452 b329 "com/example/wayfront/wayfront/paths/ShortestPathTree" := ((E1_333.ext E446).wr W452)
            have f454 : Fld Z h452 b329 "com/example/wayfront/wayfront/paths/ShortestPathTree" "predecessor" "[I" (.ref b301) := ((Fp_333.ext E446).other W452 (Or.inl ne_b329_b446))
            have f455 : Fld Z h452 b329 "com/example/wayfront/wayfront/paths/ShortestPathTree" "tail" "[I" (.ref b308) := ((Ft_333.ext E446).other W452 (Or.inl ne_b329_b446))
            have f456 : Arv Z h452 b301 k301 .int (5 : Int32) [(.int (-1 : Int32)), (.int (-1 : Int32)), (.int (2 : Int32)), (.int (1 : Int32)), (.int (0 : Int32))] (.int (0 : Int32)) := ((f447.ext E446).other W452 ne_b301_b446)
            have f457 : Arv Z h452 b308 k308 .int (3 : Int32) [(.int vp4), (.int vp3), (.int (1 : Int32))] (.int (0 : Int32)) := ((f448.ext E446).other W452 ne_b308_b446)
            exact J T452 h452 _ b446 k446 (1 : Int32) ([(1 : Int32)] : List Int32) ([1] : List Int32) (X452.more (by decide) (by decide)) e452 N452 Z452 f453 f454 f455 f456 f457 V452 rfl (by decide) (by decide) rfl (by have e_vn : vn = 3 := hc221_444; have e_p3 : vp3 = 1 := hc227_445; rw [e_vn, e_p3]; exact ⟨(show 0 ≤ (3 : Int32).toInt ∧ (3 : Int32).toInt < 5 from by decide), rfl, (show 0 ≤ (1 : Int32).toInt ∧ (1 : Int32).toInt < 3 from by decide), ⟨(show 0 ≤ (1 : Int32).toInt ∧ (1 : Int32).toInt < 5 from by decide), (show (-1 : Int32) < 0 from by decide)⟩⟩)
          · refine Go.step (fun _ k => XS.icmpYes X333.here hx rfl (pc0 := 227) (pc' := 243) rfl (hb hby at_227) rfl (feq hc227_445).2 (by decide) (by decide) k) ?_
            show Go _ _ _ _ _ _ _ T333 (mkF m 243 #[.val (.int ish), .val (.int ind), .val (.int iln), .val (.int ie0), .val (.int ie1), .val (.int ie2), .val (.int vp3), .val (.int vp4), .val (.int (1 : Int32)), .val (.int vn), .val (.int (2 : Int32)), .val (.int (1 : Int32)), .val (.int (0 : Int32)), .val (.ref b301), .val (.ref b308), .val (.ref b313), .val (.ref b321), .val (.ref b329), .unset, .unset, .unset, .unset, .unset, .unset, .unset, .unset] [])
            refine Go.step (fun _ k => XS.iconst X333.here hx rfl (hb hby at_243) k) ?_
            have f459 : Arv Z h333 b301 k301 .int (5 : Int32) [(.int (-1 : Int32)), (.int (-1 : Int32)), (.int (2 : Int32)), (.int (1 : Int32)), (.int (0 : Int32))] (.int (0 : Int32)) := ((f330.ext E329).keep Kq333 (ninS ne_b301_b329 nin0))
            have f460 : Arv Z h333 b308 k308 .int (3 : Int32) [(.int vp4), (.int vp3), (.int (1 : Int32))] (.int (0 : Int32)) := ((f331.ext E329).keep Kq333 (ninS ne_b308_b329 nin0))
            have f461 : Arv Z h333 b313 k313 .double (5 : Int32) [(.double (0 : UInt64)), (.double (0 : UInt64)), (.double (4607182418800017408 : UInt64)), (.double (4611686018427387904 : UInt64)), (.double (4613937818241073152 : UInt64))] (.double (0 : UInt64)) := ((f332.ext E329).keep Kq333 (ninS ne_b313_b329 nin0))
            have f462 : Arv Z h333 b321 k321 .int (4 : Int32) [(.int (1 : Int32)), (.int (2 : Int32)), (.int (3 : Int32)), (.int (4 : Int32))] (.int (0 : Int32)) := ((V328.ext E329).keep Kq333 (ninS ne_b321_b329 nin0))
            obtain ⟨T458, h458, k458, X458, e458, E458, A458, st458⟩ := newP X333 hx hZ (hw _ (List.mem_of_getElem? (i := 5) rfl)) e333 (g := (mkF m 244 #[.val (.int ish), .val (.int ind), .val (.int iln), .val (.int ie0), .val (.int ie1), .val (.int ie2), .val (.int vp3), .val (.int vp4), .val (.int (1 : Int32)), .val (.int vn), .val (.int (2 : Int32)), .val (.int (1 : Int32)), .val (.int (0 : Int32)), .val (.ref b301), .val (.ref b308), .val (.ref b313), .val (.ref b321), .val (.ref b329), .unset, .unset, .unset, .unset, .unset, .unset, .unset, .unset] [(.int (2 : Int32))])) rfl (hb hby at_244) rfl (by decide) (cap := 2) (by decide) (by decide) (by decide) (by decide)
            obtain ⟨b458, g458⟩ : ∃ z, z = h333.size := ⟨_, rfl⟩
            rw [← g458] at A458 st458
            refine Go.step st458 ?_
            have g_b458 : n0 ≤ b458 := Nat.le_trans Z333 (Nat.le_of_eq g458.symm)
            have ne_b301_b458 : b301 ≠ b458 := Nat.ne_of_lt (Nat.lt_of_lt_of_le f459.lt (Nat.le_of_eq g458.symm))
            have ne_b308_b458 : b308 ≠ b458 := Nat.ne_of_lt (Nat.lt_of_lt_of_le f460.lt (Nat.le_of_eq g458.symm))
            have ne_b313_b458 : b313 ≠ b458 := Nat.ne_of_lt (Nat.lt_of_lt_of_le f461.lt (Nat.le_of_eq g458.symm))
            have ne_b321_b458 : b321 ≠ b458 := Nat.ne_of_lt (Nat.lt_of_lt_of_le f462.lt (Nat.le_of_eq g458.symm))
            have ne_b329_b458 : b329 ≠ b458 := Nat.ne_of_lt (Nat.lt_of_lt_of_le E1_333.lt (Nat.le_of_eq g458.symm))
            have Z458 : n0 ≤ h458.size := Nat.le_trans Z333 E458.1
            have V458 : Arv Z h458 b458 k458 .int (2 : Int32) [] (.int (0 : Int32)) := Arv.new A458 (by decide)
            have V463 : Arv Z h458 b458 k458 .int (2 : Int32) [(.int (0 : Int32)), (.int (0 : Int32))] (.int (0 : Int32)) := (V458).pad (pad_rep [] (.int (0 : Int32)) 2)
            show Go _ _ _ _ _ _ _ T458 (mkF m 246 #[.val (.int ish), .val (.int ind), .val (.int iln), .val (.int ie0), .val (.int ie1), .val (.int ie2), .val (.int vp3), .val (.int vp4), .val (.int (1 : Int32)), .val (.int vn), .val (.int (2 : Int32)), .val (.int (1 : Int32)), .val (.int (0 : Int32)), .val (.ref b301), .val (.ref b308), .val (.ref b313), .val (.ref b321), .val (.ref b329), .unset, .unset, .unset, .unset, .unset, .unset, .unset, .unset] [(.ref b458)])
            refine Go.step (fun _ k => XS.dup X458.here hx rfl (hb hby at_246) rfl rfl k) ?_
            refine Go.step (fun _ k => XS.iconst X458.here hx rfl (hb hby at_247) k) ?_
            refine Go.step (fun _ k => XS.iload X458.here hx rfl (hb hby at_248) rfl k) ?_
            obtain ⟨cl464, Ar464, q464, S464, M464, H464, G464⟩ := id (V463)
            have hin464 : ¬ ((0 : Int32) < 0 ∨ cl464.slots.size ≤ ((0 : Int32)).toNatClampNeg) := inb_of S464 ⟨by decide, by decide⟩
            obtain ⟨T464, h464, X464, e464, W464, st464⟩ := stI X458 hx hZ e458 Ar464 (j := (0 : Int32)) hin464 (g := (mkF m 250 #[.val (.int ish), .val (.int ind), .val (.int iln), .val (.int ie0), .val (.int ie1), .val (.int ie2), .val (.int vp3), .val (.int vp4), .val (.int (1 : Int32)), .val (.int vn), .val (.int (2 : Int32)), .val (.int (1 : Int32)), .val (.int (0 : Int32)), .val (.ref b301), .val (.ref b308), .val (.ref b313), .val (.ref b321), .val (.ref b329), .unset, .unset, .unset, .unset, .unset, .unset, .unset, .unset] [(.int (2 : Int32)), (.int (0 : Int32)), (.ref b458), (.ref b458)])) rfl rfl (hb hby at_250)
            refine Go.step st464 ?_
            have V464 : Arv Z h464 b458 k458 .int (2 : Int32) [(.int (2 : Int32)), (.int (0 : Int32))] (.int (0 : Int32)) := Arv.set Ar464 q464 S464 M464 H464 G464 rfl W464 0 rfl (Nat.le_of_ble_eq_true rfl)
            have N464 := Fr.snoc X464 N333 g_b458
            have Z464 : n0 ≤ h464.size := Nat.le_trans Z458 (Keep.of_wr W464).1
            show Go _ _ _ _ _ _ _ T464 (mkF m 251 #[.val (.int ish), .val (.int ind), .val (.int iln), .val (.int ie0), .val (.int ie1), .val (.int ie2), .val (.int vp3), .val (.int vp4), .val (.int (1 : Int32)), .val (.int vn), .val (.int (2 : Int32)), .val (.int (1 : Int32)), .val (.int (0 : Int32)), .val (.ref b301), .val (.ref b308), .val (.ref b313), .val (.ref b321), .val (.ref b329), .unset, .unset, .unset, .unset, .unset, .unset, .unset, .unset] [(.ref b458)])
            refine Go.step (fun _ k => XS.dup X464.here hx rfl (hb hby at_251) rfl rfl k) ?_
            refine Go.step (fun _ k => XS.iconst X464.here hx rfl (hb hby at_252) k) ?_
            refine Go.step (fun _ k => XS.iload X464.here hx rfl (hb hby at_253) rfl k) ?_
            obtain ⟨cl465, Ar465, q465, S465, M465, H465, G465⟩ := id (V464)
            have hin465 : ¬ ((1 : Int32) < 0 ∨ cl465.slots.size ≤ ((1 : Int32)).toNatClampNeg) := inb_of S465 ⟨by decide, by decide⟩
            obtain ⟨T465, h465, X465, e465, W465, st465⟩ := stI X464 hx hZ e464 Ar465 (j := (1 : Int32)) hin465 (g := (mkF m 255 #[.val (.int ish), .val (.int ind), .val (.int iln), .val (.int ie0), .val (.int ie1), .val (.int ie2), .val (.int vp3), .val (.int vp4), .val (.int (1 : Int32)), .val (.int vn), .val (.int (2 : Int32)), .val (.int (1 : Int32)), .val (.int (0 : Int32)), .val (.ref b301), .val (.ref b308), .val (.ref b313), .val (.ref b321), .val (.ref b329), .unset, .unset, .unset, .unset, .unset, .unset, .unset, .unset] [(.int (1 : Int32)), (.int (1 : Int32)), (.ref b458), (.ref b458)])) rfl rfl (hb hby at_255)
            refine Go.step st465 ?_
            have V465 : Arv Z h465 b458 k458 .int (2 : Int32) [(.int (2 : Int32)), (.int (1 : Int32))] (.int (0 : Int32)) := Arv.set Ar465 q465 S465 M465 H465 G465 rfl W465 1 rfl (Nat.le_of_ble_eq_true rfl)
            have N465 := Fr.snoc X465 N464 g_b458
            have Z465 : n0 ≤ h465.size := Nat.le_trans Z464 (Keep.of_wr W465).1
            show Go _ _ _ _ _ _ _ T465 (mkF m 256 #[.val (.int ish), .val (.int ind), .val (.int iln), .val (.int ie0), .val (.int ie1), .val (.int ie2), .val (.int vp3), .val (.int vp4), .val (.int (1 : Int32)), .val (.int vn), .val (.int (2 : Int32)), .val (.int (1 : Int32)), .val (.int (0 : Int32)), .val (.ref b301), .val (.ref b308), .val (.ref b313), .val (.ref b321), .val (.ref b329), .unset, .unset, .unset, .unset, .unset, .unset, .unset, .unset] [(.ref b458)])
            refine Go.step (fun _ k => XS.astore X465.here hx rfl (hb hby at_256) rfl rfl (l' := #[.val (.int ish), .val (.int ind), .val (.int iln), .val (.int ie0), .val (.int ie1), .val (.int ie2), .val (.int vp3), .val (.int vp4), .val (.int (1 : Int32)), .val (.int vn), .val (.int (2 : Int32)), .val (.int (1 : Int32)), .val (.int (0 : Int32)), .val (.ref b301), .val (.ref b308), .val (.ref b313), .val (.ref b321), .val (.ref b329), .val (.ref b458), .unset, .unset, .unset, .unset, .unset, .unset, .unset]) rfl k) ?_
            show Go _ _ _ _ _ _ _ T465 (mkF m 258 #[.val (.int ish), .val (.int ind), .val (.int iln), .val (.int ie0), .val (.int ie1), .val (.int ie2), .val (.int vp3), .val (.int vp4), .val (.int (1 : Int32)), .val (.int vn), .val (.int (2 : Int32)), .val (.int (1 : Int32)), .val (.int (0 : Int32)), .val (.ref b301), .val (.ref b308), .val (.ref b313), .val (.ref b321), .val (.ref b329), .val (.ref b458), .unset, .unset, .unset, .unset, .unset, .unset, .unset] [])
            refine Go.step (fun _ k => XS.goto X465.here hx rfl (pc0 := 258) (pc' := 348) rfl (hb hby at_258) (by decide) (by decide) k) ?_
            show Go _ _ _ _ _ _ _ T465 (mkF m 348 #[.val (.int ish), .val (.int ind), .val (.int iln), .val (.int ie0), .val (.int ie1), .val (.int ie2), .val (.int vp3), .val (.int vp4), .val (.int (1 : Int32)), .val (.int vn), .val (.int (2 : Int32)), .val (.int (1 : Int32)), .val (.int (0 : Int32)), .val (.ref b301), .val (.ref b308), .val (.ref b313), .val (.ref b321), .val (.ref b329), .val (.ref b458), .unset, .unset, .unset, .unset, .unset, .unset, .unset] [])
            have f466 : Exa Z h465 b329 "com/example/wayfront/wayfront/paths/ShortestPathTree" := (((E1_333.ext E458).wr W464).wr W465)
            have f467 : Fld Z h465 b329 "com/example/wayfront/wayfront/paths/ShortestPathTree" "predecessor" "[I" (.ref b301) := (((Fp_333.ext E458).other W464 (Or.inl ne_b329_b458)).other W465 (Or.inl ne_b329_b458))
            have f468 : Fld Z h465 b329 "com/example/wayfront/wayfront/paths/ShortestPathTree" "tail" "[I" (.ref b308) := (((Ft_333.ext E458).other W464 (Or.inl ne_b329_b458)).other W465 (Or.inl ne_b329_b458))
            have f469 : Arv Z h465 b301 k301 .int (5 : Int32) [(.int (-1 : Int32)), (.int (-1 : Int32)), (.int (2 : Int32)), (.int (1 : Int32)), (.int (0 : Int32))] (.int (0 : Int32)) := (((f459.ext E458).other W464 ne_b301_b458).other W465 ne_b301_b458)
            have f470 : Arv Z h465 b308 k308 .int (3 : Int32) [(.int vp4), (.int vp3), (.int (1 : Int32))] (.int (0 : Int32)) := (((f460.ext E458).other W464 ne_b308_b458).other W465 ne_b308_b458)
            exact J T465 h465 _ b458 k458 (2 : Int32) ([(2 : Int32), (1 : Int32)] : List Int32) ([1, 2] : List Int32) (X465.more (by decide) (by decide)) e465 N465 Z465 f466 f467 f468 f469 f470 V465 rfl (by decide) (by decide) rfl (by have e_vn : vn = 3 := hc221_444; have e_p3 : vp3 = 2 := (own_ar25 vp3 b_vp3 hc227_445); rw [e_vn, e_p3]; exact ⟨(show 0 ≤ (3 : Int32).toInt ∧ (3 : Int32).toInt < 5 from by decide), rfl, (show 0 ≤ (1 : Int32).toInt ∧ (1 : Int32).toInt < 3 from by decide), ⟨(show 0 ≤ (2 : Int32).toInt ∧ (2 : Int32).toInt < 5 from by decide), rfl, (show 0 ≤ (2 : Int32).toInt ∧ (2 : Int32).toInt < 3 from by decide), ⟨(show 0 ≤ (1 : Int32).toInt ∧ (1 : Int32).toInt < 5 from by decide), (show (-1 : Int32) < 0 from by decide)⟩⟩⟩)
        · refine Go.step (fun _ k => XS.icmpYes X333.here hx rfl (pc0 := 221) (pc' := 261) rfl (hb hby at_221) rfl (feq hc221_444).2 (by decide) (by decide) k) ?_
          show Go _ _ _ _ _ _ _ T333 (mkF m 261 #[.val (.int ish), .val (.int ind), .val (.int iln), .val (.int ie0), .val (.int ie1), .val (.int ie2), .val (.int vp3), .val (.int vp4), .val (.int (1 : Int32)), .val (.int vn), .val (.int (2 : Int32)), .val (.int (1 : Int32)), .val (.int (0 : Int32)), .val (.ref b301), .val (.ref b308), .val (.ref b313), .val (.ref b321), .val (.ref b329), .unset, .unset, .unset, .unset, .unset, .unset, .unset, .unset] [])
          refine Go.step (fun _ k => XS.iload X333.here hx rfl (hb hby at_261) rfl k) ?_
          refine Go.step (fun _ k => XS.iconst X333.here hx rfl (hb hby at_263) k) ?_
          by_cases hc264_471 : vp4 = (1 : Int32)
          · refine Go.step (fun _ k => XS.icmpNo X333.here hx rfl (hb hby at_264) rfl (teq hc264_471).2 k) ?_
            show Go _ _ _ _ _ _ _ T333 (mkF m 267 #[.val (.int ish), .val (.int ind), .val (.int iln), .val (.int ie0), .val (.int ie1), .val (.int ie2), .val (.int vp3), .val (.int vp4), .val (.int (1 : Int32)), .val (.int vn), .val (.int (2 : Int32)), .val (.int (1 : Int32)), .val (.int (0 : Int32)), .val (.ref b301), .val (.ref b308), .val (.ref b313), .val (.ref b321), .val (.ref b329), .unset, .unset, .unset, .unset, .unset, .unset, .unset, .unset] [])
            refine Go.step (fun _ k => XS.iconst X333.here hx rfl (hb hby at_267) k) ?_
            have f473 : Arv Z h333 b301 k301 .int (5 : Int32) [(.int (-1 : Int32)), (.int (-1 : Int32)), (.int (2 : Int32)), (.int (1 : Int32)), (.int (0 : Int32))] (.int (0 : Int32)) := ((f330.ext E329).keep Kq333 (ninS ne_b301_b329 nin0))
            have f474 : Arv Z h333 b308 k308 .int (3 : Int32) [(.int vp4), (.int vp3), (.int (1 : Int32))] (.int (0 : Int32)) := ((f331.ext E329).keep Kq333 (ninS ne_b308_b329 nin0))
            have f475 : Arv Z h333 b313 k313 .double (5 : Int32) [(.double (0 : UInt64)), (.double (0 : UInt64)), (.double (4607182418800017408 : UInt64)), (.double (4611686018427387904 : UInt64)), (.double (4613937818241073152 : UInt64))] (.double (0 : UInt64)) := ((f332.ext E329).keep Kq333 (ninS ne_b313_b329 nin0))
            have f476 : Arv Z h333 b321 k321 .int (4 : Int32) [(.int (1 : Int32)), (.int (2 : Int32)), (.int (3 : Int32)), (.int (4 : Int32))] (.int (0 : Int32)) := ((V328.ext E329).keep Kq333 (ninS ne_b321_b329 nin0))
            obtain ⟨T472, h472, k472, X472, e472, E472, A472, st472⟩ := newP X333 hx hZ (hw _ (List.mem_of_getElem? (i := 5) rfl)) e333 (g := (mkF m 268 #[.val (.int ish), .val (.int ind), .val (.int iln), .val (.int ie0), .val (.int ie1), .val (.int ie2), .val (.int vp3), .val (.int vp4), .val (.int (1 : Int32)), .val (.int vn), .val (.int (2 : Int32)), .val (.int (1 : Int32)), .val (.int (0 : Int32)), .val (.ref b301), .val (.ref b308), .val (.ref b313), .val (.ref b321), .val (.ref b329), .unset, .unset, .unset, .unset, .unset, .unset, .unset, .unset] [(.int (1 : Int32))])) rfl (hb hby at_268) rfl (by decide) (cap := 1) (by decide) (by decide) (by decide) (by decide)
            obtain ⟨b472, g472⟩ : ∃ z, z = h333.size := ⟨_, rfl⟩
            rw [← g472] at A472 st472
            refine Go.step st472 ?_
            have g_b472 : n0 ≤ b472 := Nat.le_trans Z333 (Nat.le_of_eq g472.symm)
            have ne_b301_b472 : b301 ≠ b472 := Nat.ne_of_lt (Nat.lt_of_lt_of_le f473.lt (Nat.le_of_eq g472.symm))
            have ne_b308_b472 : b308 ≠ b472 := Nat.ne_of_lt (Nat.lt_of_lt_of_le f474.lt (Nat.le_of_eq g472.symm))
            have ne_b313_b472 : b313 ≠ b472 := Nat.ne_of_lt (Nat.lt_of_lt_of_le f475.lt (Nat.le_of_eq g472.symm))
            have ne_b321_b472 : b321 ≠ b472 := Nat.ne_of_lt (Nat.lt_of_lt_of_le f476.lt (Nat.le_of_eq g472.symm))
            have ne_b329_b472 : b329 ≠ b472 := Nat.ne_of_lt (Nat.lt_of_lt_of_le E1_333.lt (Nat.le_of_eq g472.symm))
            have Z472 : n0 ≤ h472.size := Nat.le_trans Z333 E472.1
            have V472 : Arv Z h472 b472 k472 .int (1 : Int32) [] (.int (0 : Int32)) := Arv.new A472 (by decide)
            have V477 : Arv Z h472 b472 k472 .int (1 : Int32) [(.int (0 : Int32))] (.int (0 : Int32)) := (V472).pad (pad_rep [] (.int (0 : Int32)) 1)
            show Go _ _ _ _ _ _ _ T472 (mkF m 270 #[.val (.int ish), .val (.int ind), .val (.int iln), .val (.int ie0), .val (.int ie1), .val (.int ie2), .val (.int vp3), .val (.int vp4), .val (.int (1 : Int32)), .val (.int vn), .val (.int (2 : Int32)), .val (.int (1 : Int32)), .val (.int (0 : Int32)), .val (.ref b301), .val (.ref b308), .val (.ref b313), .val (.ref b321), .val (.ref b329), .unset, .unset, .unset, .unset, .unset, .unset, .unset, .unset] [(.ref b472)])
            refine Go.step (fun _ k => XS.dup X472.here hx rfl (hb hby at_270) rfl rfl k) ?_
            refine Go.step (fun _ k => XS.iconst X472.here hx rfl (hb hby at_271) k) ?_
            refine Go.step (fun _ k => XS.iload X472.here hx rfl (hb hby at_272) rfl k) ?_
            obtain ⟨cl478, Ar478, q478, S478, M478, H478, G478⟩ := id (V477)
            have hin478 : ¬ ((0 : Int32) < 0 ∨ cl478.slots.size ≤ ((0 : Int32)).toNatClampNeg) := inb_of S478 ⟨by decide, by decide⟩
            obtain ⟨T478, h478, X478, e478, W478, st478⟩ := stI X472 hx hZ e472 Ar478 (j := (0 : Int32)) hin478 (g := (mkF m 274 #[.val (.int ish), .val (.int ind), .val (.int iln), .val (.int ie0), .val (.int ie1), .val (.int ie2), .val (.int vp3), .val (.int vp4), .val (.int (1 : Int32)), .val (.int vn), .val (.int (2 : Int32)), .val (.int (1 : Int32)), .val (.int (0 : Int32)), .val (.ref b301), .val (.ref b308), .val (.ref b313), .val (.ref b321), .val (.ref b329), .unset, .unset, .unset, .unset, .unset, .unset, .unset, .unset] [(.int (0 : Int32)), (.int (0 : Int32)), (.ref b472), (.ref b472)])) rfl rfl (hb hby at_274)
            refine Go.step st478 ?_
            have V478 : Arv Z h478 b472 k472 .int (1 : Int32) [(.int (0 : Int32))] (.int (0 : Int32)) := Arv.set Ar478 q478 S478 M478 H478 G478 rfl W478 0 rfl (Nat.le_of_ble_eq_true rfl)
            have N478 := Fr.snoc X478 N333 g_b472
            have Z478 : n0 ≤ h478.size := Nat.le_trans Z472 (Keep.of_wr W478).1
            show Go _ _ _ _ _ _ _ T478 (mkF m 275 #[.val (.int ish), .val (.int ind), .val (.int iln), .val (.int ie0), .val (.int ie1), .val (.int ie2), .val (.int vp3), .val (.int vp4), .val (.int (1 : Int32)), .val (.int vn), .val (.int (2 : Int32)), .val (.int (1 : Int32)), .val (.int (0 : Int32)), .val (.ref b301), .val (.ref b308), .val (.ref b313), .val (.ref b321), .val (.ref b329), .unset, .unset, .unset, .unset, .unset, .unset, .unset, .unset] [(.ref b472)])
            refine Go.step (fun _ k => XS.astore X478.here hx rfl (hb hby at_275) rfl rfl (l' := #[.val (.int ish), .val (.int ind), .val (.int iln), .val (.int ie0), .val (.int ie1), .val (.int ie2), .val (.int vp3), .val (.int vp4), .val (.int (1 : Int32)), .val (.int vn), .val (.int (2 : Int32)), .val (.int (1 : Int32)), .val (.int (0 : Int32)), .val (.ref b301), .val (.ref b308), .val (.ref b313), .val (.ref b321), .val (.ref b329), .val (.ref b472), .unset, .unset, .unset, .unset, .unset, .unset, .unset]) rfl k) ?_
            show Go _ _ _ _ _ _ _ T478 (mkF m 277 #[.val (.int ish), .val (.int ind), .val (.int iln), .val (.int ie0), .val (.int ie1), .val (.int ie2), .val (.int vp3), .val (.int vp4), .val (.int (1 : Int32)), .val (.int vn), .val (.int (2 : Int32)), .val (.int (1 : Int32)), .val (.int (0 : Int32)), .val (.ref b301), .val (.ref b308), .val (.ref b313), .val (.ref b321), .val (.ref b329), .val (.ref b472), .unset, .unset, .unset, .unset, .unset, .unset, .unset] [])
            refine Go.step (fun _ k => XS.goto X478.here hx rfl (pc0 := 277) (pc' := 348) rfl (hb hby at_277) (by decide) (by decide) k) ?_
            show Go _ _ _ _ _ _ _ T478 (mkF m 348 #[.val (.int ish), .val (.int ind), .val (.int iln), .val (.int ie0), .val (.int ie1), .val (.int ie2), .val (.int vp3), .val (.int vp4), .val (.int (1 : Int32)), .val (.int vn), .val (.int (2 : Int32)), .val (.int (1 : Int32)), .val (.int (0 : Int32)), .val (.ref b301), .val (.ref b308), .val (.ref b313), .val (.ref b321), .val (.ref b329), .val (.ref b472), .unset, .unset, .unset, .unset, .unset, .unset, .unset] [])
            have f479 : Exa Z h478 b329 "com/example/wayfront/wayfront/paths/ShortestPathTree" := ((E1_333.ext E472).wr W478)
            have f480 : Fld Z h478 b329 "com/example/wayfront/wayfront/paths/ShortestPathTree" "predecessor" "[I" (.ref b301) := ((Fp_333.ext E472).other W478 (Or.inl ne_b329_b472))
            have f481 : Fld Z h478 b329 "com/example/wayfront/wayfront/paths/ShortestPathTree" "tail" "[I" (.ref b308) := ((Ft_333.ext E472).other W478 (Or.inl ne_b329_b472))
            have f482 : Arv Z h478 b301 k301 .int (5 : Int32) [(.int (-1 : Int32)), (.int (-1 : Int32)), (.int (2 : Int32)), (.int (1 : Int32)), (.int (0 : Int32))] (.int (0 : Int32)) := ((f473.ext E472).other W478 ne_b301_b472)
            have f483 : Arv Z h478 b308 k308 .int (3 : Int32) [(.int vp4), (.int vp3), (.int (1 : Int32))] (.int (0 : Int32)) := ((f474.ext E472).other W478 ne_b308_b472)
            exact J T478 h478 _ b472 k472 (1 : Int32) ([(0 : Int32)] : List Int32) ([0] : List Int32) (X478.more (by decide) (by decide)) e478 N478 Z478 f479 f480 f481 f482 f483 V478 rfl (by decide) (by decide) rfl (by have e_vn : vn = 4 := (own_ar26 vn b_vn hc188_419 hc202_431 hc221_444); have e_p4 : vp4 = 1 := hc264_471; rw [e_vn, e_p4]; exact ⟨(show 0 ≤ (4 : Int32).toInt ∧ (4 : Int32).toInt < 5 from by decide), rfl, (show 0 ≤ (0 : Int32).toInt ∧ (0 : Int32).toInt < 3 from by decide), ⟨(show 0 ≤ (1 : Int32).toInt ∧ (1 : Int32).toInt < 5 from by decide), (show (-1 : Int32) < 0 from by decide)⟩⟩)
          · refine Go.step (fun _ k => XS.icmpYes X333.here hx rfl (pc0 := 264) (pc' := 280) rfl (hb hby at_264) rfl (feq hc264_471).2 (by decide) (by decide) k) ?_
            show Go _ _ _ _ _ _ _ T333 (mkF m 280 #[.val (.int ish), .val (.int ind), .val (.int iln), .val (.int ie0), .val (.int ie1), .val (.int ie2), .val (.int vp3), .val (.int vp4), .val (.int (1 : Int32)), .val (.int vn), .val (.int (2 : Int32)), .val (.int (1 : Int32)), .val (.int (0 : Int32)), .val (.ref b301), .val (.ref b308), .val (.ref b313), .val (.ref b321), .val (.ref b329), .unset, .unset, .unset, .unset, .unset, .unset, .unset, .unset] [])
            refine Go.step (fun _ k => XS.iload X333.here hx rfl (hb hby at_280) rfl k) ?_
            refine Go.step (fun _ k => XS.iconst X333.here hx rfl (hb hby at_282) k) ?_
            by_cases hc283_484 : vp4 = (2 : Int32)
            · refine Go.step (fun _ k => XS.icmpNo X333.here hx rfl (hb hby at_283) rfl (teq hc283_484).2 k) ?_
              show Go _ _ _ _ _ _ _ T333 (mkF m 286 #[.val (.int ish), .val (.int ind), .val (.int iln), .val (.int ie0), .val (.int ie1), .val (.int ie2), .val (.int vp3), .val (.int vp4), .val (.int (1 : Int32)), .val (.int vn), .val (.int (2 : Int32)), .val (.int (1 : Int32)), .val (.int (0 : Int32)), .val (.ref b301), .val (.ref b308), .val (.ref b313), .val (.ref b321), .val (.ref b329), .unset, .unset, .unset, .unset, .unset, .unset, .unset, .unset] [])
              refine Go.step (fun _ k => XS.iconst X333.here hx rfl (hb hby at_286) k) ?_
              have f486 : Arv Z h333 b301 k301 .int (5 : Int32) [(.int (-1 : Int32)), (.int (-1 : Int32)), (.int (2 : Int32)), (.int (1 : Int32)), (.int (0 : Int32))] (.int (0 : Int32)) := ((f330.ext E329).keep Kq333 (ninS ne_b301_b329 nin0))
              have f487 : Arv Z h333 b308 k308 .int (3 : Int32) [(.int vp4), (.int vp3), (.int (1 : Int32))] (.int (0 : Int32)) := ((f331.ext E329).keep Kq333 (ninS ne_b308_b329 nin0))
              have f488 : Arv Z h333 b313 k313 .double (5 : Int32) [(.double (0 : UInt64)), (.double (0 : UInt64)), (.double (4607182418800017408 : UInt64)), (.double (4611686018427387904 : UInt64)), (.double (4613937818241073152 : UInt64))] (.double (0 : UInt64)) := ((f332.ext E329).keep Kq333 (ninS ne_b313_b329 nin0))
              have f489 : Arv Z h333 b321 k321 .int (4 : Int32) [(.int (1 : Int32)), (.int (2 : Int32)), (.int (3 : Int32)), (.int (4 : Int32))] (.int (0 : Int32)) := ((V328.ext E329).keep Kq333 (ninS ne_b321_b329 nin0))
              obtain ⟨T485, h485, k485, X485, e485, E485, A485, st485⟩ := newP X333 hx hZ (hw _ (List.mem_of_getElem? (i := 5) rfl)) e333 (g := (mkF m 287 #[.val (.int ish), .val (.int ind), .val (.int iln), .val (.int ie0), .val (.int ie1), .val (.int ie2), .val (.int vp3), .val (.int vp4), .val (.int (1 : Int32)), .val (.int vn), .val (.int (2 : Int32)), .val (.int (1 : Int32)), .val (.int (0 : Int32)), .val (.ref b301), .val (.ref b308), .val (.ref b313), .val (.ref b321), .val (.ref b329), .unset, .unset, .unset, .unset, .unset, .unset, .unset, .unset] [(.int (2 : Int32))])) rfl (hb hby at_287) rfl (by decide) (cap := 2) (by decide) (by decide) (by decide) (by decide)
              obtain ⟨b485, g485⟩ : ∃ z, z = h333.size := ⟨_, rfl⟩
              rw [← g485] at A485 st485
              refine Go.step st485 ?_
              have g_b485 : n0 ≤ b485 := Nat.le_trans Z333 (Nat.le_of_eq g485.symm)
              have ne_b301_b485 : b301 ≠ b485 := Nat.ne_of_lt (Nat.lt_of_lt_of_le f486.lt (Nat.le_of_eq g485.symm))
              have ne_b308_b485 : b308 ≠ b485 := Nat.ne_of_lt (Nat.lt_of_lt_of_le f487.lt (Nat.le_of_eq g485.symm))
              have ne_b313_b485 : b313 ≠ b485 := Nat.ne_of_lt (Nat.lt_of_lt_of_le f488.lt (Nat.le_of_eq g485.symm))
              have ne_b321_b485 : b321 ≠ b485 := Nat.ne_of_lt (Nat.lt_of_lt_of_le f489.lt (Nat.le_of_eq g485.symm))
              have ne_b329_b485 : b329 ≠ b485 := Nat.ne_of_lt (Nat.lt_of_lt_of_le E1_333.lt (Nat.le_of_eq g485.symm))
              have Z485 : n0 ≤ h485.size := Nat.le_trans Z333 E485.1
              have V485 : Arv Z h485 b485 k485 .int (2 : Int32) [] (.int (0 : Int32)) := Arv.new A485 (by decide)
              have V490 : Arv Z h485 b485 k485 .int (2 : Int32) [(.int (0 : Int32)), (.int (0 : Int32))] (.int (0 : Int32)) := (V485).pad (pad_rep [] (.int (0 : Int32)) 2)
              show Go _ _ _ _ _ _ _ T485 (mkF m 289 #[.val (.int ish), .val (.int ind), .val (.int iln), .val (.int ie0), .val (.int ie1), .val (.int ie2), .val (.int vp3), .val (.int vp4), .val (.int (1 : Int32)), .val (.int vn), .val (.int (2 : Int32)), .val (.int (1 : Int32)), .val (.int (0 : Int32)), .val (.ref b301), .val (.ref b308), .val (.ref b313), .val (.ref b321), .val (.ref b329), .unset, .unset, .unset, .unset, .unset, .unset, .unset, .unset] [(.ref b485)])
              refine Go.step (fun _ k => XS.dup X485.here hx rfl (hb hby at_289) rfl rfl k) ?_
              refine Go.step (fun _ k => XS.iconst X485.here hx rfl (hb hby at_290) k) ?_
              refine Go.step (fun _ k => XS.iload X485.here hx rfl (hb hby at_291) rfl k) ?_
              obtain ⟨cl491, Ar491, q491, S491, M491, H491, G491⟩ := id (V490)
              have hin491 : ¬ ((0 : Int32) < 0 ∨ cl491.slots.size ≤ ((0 : Int32)).toNatClampNeg) := inb_of S491 ⟨by decide, by decide⟩
              obtain ⟨T491, h491, X491, e491, W491, st491⟩ := stI X485 hx hZ e485 Ar491 (j := (0 : Int32)) hin491 (g := (mkF m 293 #[.val (.int ish), .val (.int ind), .val (.int iln), .val (.int ie0), .val (.int ie1), .val (.int ie2), .val (.int vp3), .val (.int vp4), .val (.int (1 : Int32)), .val (.int vn), .val (.int (2 : Int32)), .val (.int (1 : Int32)), .val (.int (0 : Int32)), .val (.ref b301), .val (.ref b308), .val (.ref b313), .val (.ref b321), .val (.ref b329), .unset, .unset, .unset, .unset, .unset, .unset, .unset, .unset] [(.int (2 : Int32)), (.int (0 : Int32)), (.ref b485), (.ref b485)])) rfl rfl (hb hby at_293)
              refine Go.step st491 ?_
              have V491 : Arv Z h491 b485 k485 .int (2 : Int32) [(.int (2 : Int32)), (.int (0 : Int32))] (.int (0 : Int32)) := Arv.set Ar491 q491 S491 M491 H491 G491 rfl W491 0 rfl (Nat.le_of_ble_eq_true rfl)
              have N491 := Fr.snoc X491 N333 g_b485
              have Z491 : n0 ≤ h491.size := Nat.le_trans Z485 (Keep.of_wr W491).1
              show Go _ _ _ _ _ _ _ T491 (mkF m 294 #[.val (.int ish), .val (.int ind), .val (.int iln), .val (.int ie0), .val (.int ie1), .val (.int ie2), .val (.int vp3), .val (.int vp4), .val (.int (1 : Int32)), .val (.int vn), .val (.int (2 : Int32)), .val (.int (1 : Int32)), .val (.int (0 : Int32)), .val (.ref b301), .val (.ref b308), .val (.ref b313), .val (.ref b321), .val (.ref b329), .unset, .unset, .unset, .unset, .unset, .unset, .unset, .unset] [(.ref b485)])
              refine Go.step (fun _ k => XS.dup X491.here hx rfl (hb hby at_294) rfl rfl k) ?_
              refine Go.step (fun _ k => XS.iconst X491.here hx rfl (hb hby at_295) k) ?_
              refine Go.step (fun _ k => XS.iload X491.here hx rfl (hb hby at_296) rfl k) ?_
              obtain ⟨cl492, Ar492, q492, S492, M492, H492, G492⟩ := id (V491)
              have hin492 : ¬ ((1 : Int32) < 0 ∨ cl492.slots.size ≤ ((1 : Int32)).toNatClampNeg) := inb_of S492 ⟨by decide, by decide⟩
              obtain ⟨T492, h492, X492, e492, W492, st492⟩ := stI X491 hx hZ e491 Ar492 (j := (1 : Int32)) hin492 (g := (mkF m 298 #[.val (.int ish), .val (.int ind), .val (.int iln), .val (.int ie0), .val (.int ie1), .val (.int ie2), .val (.int vp3), .val (.int vp4), .val (.int (1 : Int32)), .val (.int vn), .val (.int (2 : Int32)), .val (.int (1 : Int32)), .val (.int (0 : Int32)), .val (.ref b301), .val (.ref b308), .val (.ref b313), .val (.ref b321), .val (.ref b329), .unset, .unset, .unset, .unset, .unset, .unset, .unset, .unset] [(.int (0 : Int32)), (.int (1 : Int32)), (.ref b485), (.ref b485)])) rfl rfl (hb hby at_298)
              refine Go.step st492 ?_
              have V492 : Arv Z h492 b485 k485 .int (2 : Int32) [(.int (2 : Int32)), (.int (0 : Int32))] (.int (0 : Int32)) := Arv.set Ar492 q492 S492 M492 H492 G492 rfl W492 1 rfl (Nat.le_of_ble_eq_true rfl)
              have N492 := Fr.snoc X492 N491 g_b485
              have Z492 : n0 ≤ h492.size := Nat.le_trans Z491 (Keep.of_wr W492).1
              show Go _ _ _ _ _ _ _ T492 (mkF m 299 #[.val (.int ish), .val (.int ind), .val (.int iln), .val (.int ie0), .val (.int ie1), .val (.int ie2), .val (.int vp3), .val (.int vp4), .val (.int (1 : Int32)), .val (.int vn), .val (.int (2 : Int32)), .val (.int (1 : Int32)), .val (.int (0 : Int32)), .val (.ref b301), .val (.ref b308), .val (.ref b313), .val (.ref b321), .val (.ref b329), .unset, .unset, .unset, .unset, .unset, .unset, .unset, .unset] [(.ref b485)])
              refine Go.step (fun _ k => XS.astore X492.here hx rfl (hb hby at_299) rfl rfl (l' := #[.val (.int ish), .val (.int ind), .val (.int iln), .val (.int ie0), .val (.int ie1), .val (.int ie2), .val (.int vp3), .val (.int vp4), .val (.int (1 : Int32)), .val (.int vn), .val (.int (2 : Int32)), .val (.int (1 : Int32)), .val (.int (0 : Int32)), .val (.ref b301), .val (.ref b308), .val (.ref b313), .val (.ref b321), .val (.ref b329), .val (.ref b485), .unset, .unset, .unset, .unset, .unset, .unset, .unset]) rfl k) ?_
              show Go _ _ _ _ _ _ _ T492 (mkF m 301 #[.val (.int ish), .val (.int ind), .val (.int iln), .val (.int ie0), .val (.int ie1), .val (.int ie2), .val (.int vp3), .val (.int vp4), .val (.int (1 : Int32)), .val (.int vn), .val (.int (2 : Int32)), .val (.int (1 : Int32)), .val (.int (0 : Int32)), .val (.ref b301), .val (.ref b308), .val (.ref b313), .val (.ref b321), .val (.ref b329), .val (.ref b485), .unset, .unset, .unset, .unset, .unset, .unset, .unset] [])
              refine Go.step (fun _ k => XS.goto X492.here hx rfl (pc0 := 301) (pc' := 348) rfl (hb hby at_301) (by decide) (by decide) k) ?_
              show Go _ _ _ _ _ _ _ T492 (mkF m 348 #[.val (.int ish), .val (.int ind), .val (.int iln), .val (.int ie0), .val (.int ie1), .val (.int ie2), .val (.int vp3), .val (.int vp4), .val (.int (1 : Int32)), .val (.int vn), .val (.int (2 : Int32)), .val (.int (1 : Int32)), .val (.int (0 : Int32)), .val (.ref b301), .val (.ref b308), .val (.ref b313), .val (.ref b321), .val (.ref b329), .val (.ref b485), .unset, .unset, .unset, .unset, .unset, .unset, .unset] [])
              have f493 : Exa Z h492 b329 "com/example/wayfront/wayfront/paths/ShortestPathTree" := (((E1_333.ext E485).wr W491).wr W492)
              have f494 : Fld Z h492 b329 "com/example/wayfront/wayfront/paths/ShortestPathTree" "predecessor" "[I" (.ref b301) := (((Fp_333.ext E485).other W491 (Or.inl ne_b329_b485)).other W492 (Or.inl ne_b329_b485))
              have f495 : Fld Z h492 b329 "com/example/wayfront/wayfront/paths/ShortestPathTree" "tail" "[I" (.ref b308) := (((Ft_333.ext E485).other W491 (Or.inl ne_b329_b485)).other W492 (Or.inl ne_b329_b485))
              have f496 : Arv Z h492 b301 k301 .int (5 : Int32) [(.int (-1 : Int32)), (.int (-1 : Int32)), (.int (2 : Int32)), (.int (1 : Int32)), (.int (0 : Int32))] (.int (0 : Int32)) := (((f486.ext E485).other W491 ne_b301_b485).other W492 ne_b301_b485)
              have f497 : Arv Z h492 b308 k308 .int (3 : Int32) [(.int vp4), (.int vp3), (.int (1 : Int32))] (.int (0 : Int32)) := (((f487.ext E485).other W491 ne_b308_b485).other W492 ne_b308_b485)
              exact J T492 h492 _ b485 k485 (2 : Int32) ([(2 : Int32), (0 : Int32)] : List Int32) ([0, 2] : List Int32) (X492.more (by decide) (by decide)) e492 N492 Z492 f493 f494 f495 f496 f497 V492 rfl (by decide) (by decide) rfl (by have e_vn : vn = 4 := (own_ar26 vn b_vn hc188_419 hc202_431 hc221_444); have e_p4 : vp4 = 2 := hc283_484; rw [e_vn, e_p4]; exact ⟨(show 0 ≤ (4 : Int32).toInt ∧ (4 : Int32).toInt < 5 from by decide), rfl, (show 0 ≤ (0 : Int32).toInt ∧ (0 : Int32).toInt < 3 from by decide), ⟨(show 0 ≤ (2 : Int32).toInt ∧ (2 : Int32).toInt < 5 from by decide), rfl, (show 0 ≤ (2 : Int32).toInt ∧ (2 : Int32).toInt < 3 from by decide), ⟨(show 0 ≤ (1 : Int32).toInt ∧ (1 : Int32).toInt < 5 from by decide), (show (-1 : Int32) < 0 from by decide)⟩⟩⟩)
            · refine Go.step (fun _ k => XS.icmpYes X333.here hx rfl (pc0 := 283) (pc' := 304) rfl (hb hby at_283) rfl (feq hc283_484).2 (by decide) (by decide) k) ?_
              show Go _ _ _ _ _ _ _ T333 (mkF m 304 #[.val (.int ish), .val (.int ind), .val (.int iln), .val (.int ie0), .val (.int ie1), .val (.int ie2), .val (.int vp3), .val (.int vp4), .val (.int (1 : Int32)), .val (.int vn), .val (.int (2 : Int32)), .val (.int (1 : Int32)), .val (.int (0 : Int32)), .val (.ref b301), .val (.ref b308), .val (.ref b313), .val (.ref b321), .val (.ref b329), .unset, .unset, .unset, .unset, .unset, .unset, .unset, .unset] [])
              refine Go.step (fun _ k => XS.iload X333.here hx rfl (hb hby at_304) rfl k) ?_
              refine Go.step (fun _ k => XS.iconst X333.here hx rfl (hb hby at_306) k) ?_
              by_cases hc307_498 : vp3 = (1 : Int32)
              · refine Go.step (fun _ k => XS.icmpNo X333.here hx rfl (hb hby at_307) rfl (teq hc307_498).2 k) ?_
                show Go _ _ _ _ _ _ _ T333 (mkF m 310 #[.val (.int ish), .val (.int ind), .val (.int iln), .val (.int ie0), .val (.int ie1), .val (.int ie2), .val (.int vp3), .val (.int vp4), .val (.int (1 : Int32)), .val (.int vn), .val (.int (2 : Int32)), .val (.int (1 : Int32)), .val (.int (0 : Int32)), .val (.ref b301), .val (.ref b308), .val (.ref b313), .val (.ref b321), .val (.ref b329), .unset, .unset, .unset, .unset, .unset, .unset, .unset, .unset] [])
                refine Go.step (fun _ k => XS.iconst X333.here hx rfl (hb hby at_310) k) ?_
                have f500 : Arv Z h333 b301 k301 .int (5 : Int32) [(.int (-1 : Int32)), (.int (-1 : Int32)), (.int (2 : Int32)), (.int (1 : Int32)), (.int (0 : Int32))] (.int (0 : Int32)) := ((f330.ext E329).keep Kq333 (ninS ne_b301_b329 nin0))
                have f501 : Arv Z h333 b308 k308 .int (3 : Int32) [(.int vp4), (.int vp3), (.int (1 : Int32))] (.int (0 : Int32)) := ((f331.ext E329).keep Kq333 (ninS ne_b308_b329 nin0))
                have f502 : Arv Z h333 b313 k313 .double (5 : Int32) [(.double (0 : UInt64)), (.double (0 : UInt64)), (.double (4607182418800017408 : UInt64)), (.double (4611686018427387904 : UInt64)), (.double (4613937818241073152 : UInt64))] (.double (0 : UInt64)) := ((f332.ext E329).keep Kq333 (ninS ne_b313_b329 nin0))
                have f503 : Arv Z h333 b321 k321 .int (4 : Int32) [(.int (1 : Int32)), (.int (2 : Int32)), (.int (3 : Int32)), (.int (4 : Int32))] (.int (0 : Int32)) := ((V328.ext E329).keep Kq333 (ninS ne_b321_b329 nin0))
                obtain ⟨T499, h499, k499, X499, e499, E499, A499, st499⟩ := newP X333 hx hZ (hw _ (List.mem_of_getElem? (i := 5) rfl)) e333 (g := (mkF m 311 #[.val (.int ish), .val (.int ind), .val (.int iln), .val (.int ie0), .val (.int ie1), .val (.int ie2), .val (.int vp3), .val (.int vp4), .val (.int (1 : Int32)), .val (.int vn), .val (.int (2 : Int32)), .val (.int (1 : Int32)), .val (.int (0 : Int32)), .val (.ref b301), .val (.ref b308), .val (.ref b313), .val (.ref b321), .val (.ref b329), .unset, .unset, .unset, .unset, .unset, .unset, .unset, .unset] [(.int (2 : Int32))])) rfl (hb hby at_311) rfl (by decide) (cap := 2) (by decide) (by decide) (by decide) (by decide)
                obtain ⟨b499, g499⟩ : ∃ z, z = h333.size := ⟨_, rfl⟩
                rw [← g499] at A499 st499
                refine Go.step st499 ?_
                have g_b499 : n0 ≤ b499 := Nat.le_trans Z333 (Nat.le_of_eq g499.symm)
                have ne_b301_b499 : b301 ≠ b499 := Nat.ne_of_lt (Nat.lt_of_lt_of_le f500.lt (Nat.le_of_eq g499.symm))
                have ne_b308_b499 : b308 ≠ b499 := Nat.ne_of_lt (Nat.lt_of_lt_of_le f501.lt (Nat.le_of_eq g499.symm))
                have ne_b313_b499 : b313 ≠ b499 := Nat.ne_of_lt (Nat.lt_of_lt_of_le f502.lt (Nat.le_of_eq g499.symm))
                have ne_b321_b499 : b321 ≠ b499 := Nat.ne_of_lt (Nat.lt_of_lt_of_le f503.lt (Nat.le_of_eq g499.symm))
                have ne_b329_b499 : b329 ≠ b499 := Nat.ne_of_lt (Nat.lt_of_lt_of_le E1_333.lt (Nat.le_of_eq g499.symm))
                have Z499 : n0 ≤ h499.size := Nat.le_trans Z333 E499.1
                have V499 : Arv Z h499 b499 k499 .int (2 : Int32) [] (.int (0 : Int32)) := Arv.new A499 (by decide)
                have V504 : Arv Z h499 b499 k499 .int (2 : Int32) [(.int (0 : Int32)), (.int (0 : Int32))] (.int (0 : Int32)) := (V499).pad (pad_rep [] (.int (0 : Int32)) 2)
                show Go _ _ _ _ _ _ _ T499 (mkF m 313 #[.val (.int ish), .val (.int ind), .val (.int iln), .val (.int ie0), .val (.int ie1), .val (.int ie2), .val (.int vp3), .val (.int vp4), .val (.int (1 : Int32)), .val (.int vn), .val (.int (2 : Int32)), .val (.int (1 : Int32)), .val (.int (0 : Int32)), .val (.ref b301), .val (.ref b308), .val (.ref b313), .val (.ref b321), .val (.ref b329), .unset, .unset, .unset, .unset, .unset, .unset, .unset, .unset] [(.ref b499)])
                refine Go.step (fun _ k => XS.dup X499.here hx rfl (hb hby at_313) rfl rfl k) ?_
                refine Go.step (fun _ k => XS.iconst X499.here hx rfl (hb hby at_314) k) ?_
                refine Go.step (fun _ k => XS.iload X499.here hx rfl (hb hby at_315) rfl k) ?_
                obtain ⟨cl505, Ar505, q505, S505, M505, H505, G505⟩ := id (V504)
                have hin505 : ¬ ((0 : Int32) < 0 ∨ cl505.slots.size ≤ ((0 : Int32)).toNatClampNeg) := inb_of S505 ⟨by decide, by decide⟩
                obtain ⟨T505, h505, X505, e505, W505, st505⟩ := stI X499 hx hZ e499 Ar505 (j := (0 : Int32)) hin505 (g := (mkF m 317 #[.val (.int ish), .val (.int ind), .val (.int iln), .val (.int ie0), .val (.int ie1), .val (.int ie2), .val (.int vp3), .val (.int vp4), .val (.int (1 : Int32)), .val (.int vn), .val (.int (2 : Int32)), .val (.int (1 : Int32)), .val (.int (0 : Int32)), .val (.ref b301), .val (.ref b308), .val (.ref b313), .val (.ref b321), .val (.ref b329), .unset, .unset, .unset, .unset, .unset, .unset, .unset, .unset] [(.int (1 : Int32)), (.int (0 : Int32)), (.ref b499), (.ref b499)])) rfl rfl (hb hby at_317)
                refine Go.step st505 ?_
                have V505 : Arv Z h505 b499 k499 .int (2 : Int32) [(.int (1 : Int32)), (.int (0 : Int32))] (.int (0 : Int32)) := Arv.set Ar505 q505 S505 M505 H505 G505 rfl W505 0 rfl (Nat.le_of_ble_eq_true rfl)
                have N505 := Fr.snoc X505 N333 g_b499
                have Z505 : n0 ≤ h505.size := Nat.le_trans Z499 (Keep.of_wr W505).1
                show Go _ _ _ _ _ _ _ T505 (mkF m 318 #[.val (.int ish), .val (.int ind), .val (.int iln), .val (.int ie0), .val (.int ie1), .val (.int ie2), .val (.int vp3), .val (.int vp4), .val (.int (1 : Int32)), .val (.int vn), .val (.int (2 : Int32)), .val (.int (1 : Int32)), .val (.int (0 : Int32)), .val (.ref b301), .val (.ref b308), .val (.ref b313), .val (.ref b321), .val (.ref b329), .unset, .unset, .unset, .unset, .unset, .unset, .unset, .unset] [(.ref b499)])
                refine Go.step (fun _ k => XS.dup X505.here hx rfl (hb hby at_318) rfl rfl k) ?_
                refine Go.step (fun _ k => XS.iconst X505.here hx rfl (hb hby at_319) k) ?_
                refine Go.step (fun _ k => XS.iload X505.here hx rfl (hb hby at_320) rfl k) ?_
                obtain ⟨cl506, Ar506, q506, S506, M506, H506, G506⟩ := id (V505)
                have hin506 : ¬ ((1 : Int32) < 0 ∨ cl506.slots.size ≤ ((1 : Int32)).toNatClampNeg) := inb_of S506 ⟨by decide, by decide⟩
                obtain ⟨T506, h506, X506, e506, W506, st506⟩ := stI X505 hx hZ e505 Ar506 (j := (1 : Int32)) hin506 (g := (mkF m 322 #[.val (.int ish), .val (.int ind), .val (.int iln), .val (.int ie0), .val (.int ie1), .val (.int ie2), .val (.int vp3), .val (.int vp4), .val (.int (1 : Int32)), .val (.int vn), .val (.int (2 : Int32)), .val (.int (1 : Int32)), .val (.int (0 : Int32)), .val (.ref b301), .val (.ref b308), .val (.ref b313), .val (.ref b321), .val (.ref b329), .unset, .unset, .unset, .unset, .unset, .unset, .unset, .unset] [(.int (0 : Int32)), (.int (1 : Int32)), (.ref b499), (.ref b499)])) rfl rfl (hb hby at_322)
                refine Go.step st506 ?_
                have V506 : Arv Z h506 b499 k499 .int (2 : Int32) [(.int (1 : Int32)), (.int (0 : Int32))] (.int (0 : Int32)) := Arv.set Ar506 q506 S506 M506 H506 G506 rfl W506 1 rfl (Nat.le_of_ble_eq_true rfl)
                have N506 := Fr.snoc X506 N505 g_b499
                have Z506 : n0 ≤ h506.size := Nat.le_trans Z505 (Keep.of_wr W506).1
                show Go _ _ _ _ _ _ _ T506 (mkF m 323 #[.val (.int ish), .val (.int ind), .val (.int iln), .val (.int ie0), .val (.int ie1), .val (.int ie2), .val (.int vp3), .val (.int vp4), .val (.int (1 : Int32)), .val (.int vn), .val (.int (2 : Int32)), .val (.int (1 : Int32)), .val (.int (0 : Int32)), .val (.ref b301), .val (.ref b308), .val (.ref b313), .val (.ref b321), .val (.ref b329), .unset, .unset, .unset, .unset, .unset, .unset, .unset, .unset] [(.ref b499)])
                refine Go.step (fun _ k => XS.astore X506.here hx rfl (hb hby at_323) rfl rfl (l' := #[.val (.int ish), .val (.int ind), .val (.int iln), .val (.int ie0), .val (.int ie1), .val (.int ie2), .val (.int vp3), .val (.int vp4), .val (.int (1 : Int32)), .val (.int vn), .val (.int (2 : Int32)), .val (.int (1 : Int32)), .val (.int (0 : Int32)), .val (.ref b301), .val (.ref b308), .val (.ref b313), .val (.ref b321), .val (.ref b329), .val (.ref b499), .unset, .unset, .unset, .unset, .unset, .unset, .unset]) rfl k) ?_
                show Go _ _ _ _ _ _ _ T506 (mkF m 325 #[.val (.int ish), .val (.int ind), .val (.int iln), .val (.int ie0), .val (.int ie1), .val (.int ie2), .val (.int vp3), .val (.int vp4), .val (.int (1 : Int32)), .val (.int vn), .val (.int (2 : Int32)), .val (.int (1 : Int32)), .val (.int (0 : Int32)), .val (.ref b301), .val (.ref b308), .val (.ref b313), .val (.ref b321), .val (.ref b329), .val (.ref b499), .unset, .unset, .unset, .unset, .unset, .unset, .unset] [])
                refine Go.step (fun _ k => XS.goto X506.here hx rfl (pc0 := 325) (pc' := 348) rfl (hb hby at_325) (by decide) (by decide) k) ?_
                show Go _ _ _ _ _ _ _ T506 (mkF m 348 #[.val (.int ish), .val (.int ind), .val (.int iln), .val (.int ie0), .val (.int ie1), .val (.int ie2), .val (.int vp3), .val (.int vp4), .val (.int (1 : Int32)), .val (.int vn), .val (.int (2 : Int32)), .val (.int (1 : Int32)), .val (.int (0 : Int32)), .val (.ref b301), .val (.ref b308), .val (.ref b313), .val (.ref b321), .val (.ref b329), .val (.ref b499), .unset, .unset, .unset, .unset, .unset, .unset, .unset] [])
                have f507 : Exa Z h506 b329 "com/example/wayfront/wayfront/paths/ShortestPathTree" := (((E1_333.ext E499).wr W505).wr W506)
                have f508 : Fld Z h506 b329 "com/example/wayfront/wayfront/paths/ShortestPathTree" "predecessor" "[I" (.ref b301) := (((Fp_333.ext E499).other W505 (Or.inl ne_b329_b499)).other W506 (Or.inl ne_b329_b499))
                have f509 : Fld Z h506 b329 "com/example/wayfront/wayfront/paths/ShortestPathTree" "tail" "[I" (.ref b308) := (((Ft_333.ext E499).other W505 (Or.inl ne_b329_b499)).other W506 (Or.inl ne_b329_b499))
                have f510 : Arv Z h506 b301 k301 .int (5 : Int32) [(.int (-1 : Int32)), (.int (-1 : Int32)), (.int (2 : Int32)), (.int (1 : Int32)), (.int (0 : Int32))] (.int (0 : Int32)) := (((f500.ext E499).other W505 ne_b301_b499).other W506 ne_b301_b499)
                have f511 : Arv Z h506 b308 k308 .int (3 : Int32) [(.int vp4), (.int vp3), (.int (1 : Int32))] (.int (0 : Int32)) := (((f501.ext E499).other W505 ne_b308_b499).other W506 ne_b308_b499)
                exact J T506 h506 _ b499 k499 (2 : Int32) ([(1 : Int32), (0 : Int32)] : List Int32) ([0, 1] : List Int32) (X506.more (by decide) (by decide)) e506 N506 Z506 f507 f508 f509 f510 f511 V506 rfl (by decide) (by decide) rfl (by have e_vn : vn = 4 := (own_ar26 vn b_vn hc188_419 hc202_431 hc221_444); have e_p4 : vp4 = 3 := (own_ar27 vp4 b_vp4 hc264_471 hc283_484); have e_p3 : vp3 = 1 := hc307_498; rw [e_vn, e_p4, e_p3]; exact ⟨(show 0 ≤ (4 : Int32).toInt ∧ (4 : Int32).toInt < 5 from by decide), rfl, (show 0 ≤ (0 : Int32).toInt ∧ (0 : Int32).toInt < 3 from by decide), ⟨(show 0 ≤ (3 : Int32).toInt ∧ (3 : Int32).toInt < 5 from by decide), rfl, (show 0 ≤ (1 : Int32).toInt ∧ (1 : Int32).toInt < 3 from by decide), ⟨(show 0 ≤ (1 : Int32).toInt ∧ (1 : Int32).toInt < 5 from by decide), (show (-1 : Int32) < 0 from by decide)⟩⟩⟩)
              · refine Go.step (fun _ k => XS.icmpYes X333.here hx rfl (pc0 := 307) (pc' := 328) rfl (hb hby at_307) rfl (feq hc307_498).2 (by decide) (by decide) k) ?_
                show Go _ _ _ _ _ _ _ T333 (mkF m 328 #[.val (.int ish), .val (.int ind), .val (.int iln), .val (.int ie0), .val (.int ie1), .val (.int ie2), .val (.int vp3), .val (.int vp4), .val (.int (1 : Int32)), .val (.int vn), .val (.int (2 : Int32)), .val (.int (1 : Int32)), .val (.int (0 : Int32)), .val (.ref b301), .val (.ref b308), .val (.ref b313), .val (.ref b321), .val (.ref b329), .unset, .unset, .unset, .unset, .unset, .unset, .unset, .unset] [])
                refine Go.step (fun _ k => XS.iconst X333.here hx rfl (hb hby at_328) k) ?_
                have f513 : Arv Z h333 b301 k301 .int (5 : Int32) [(.int (-1 : Int32)), (.int (-1 : Int32)), (.int (2 : Int32)), (.int (1 : Int32)), (.int (0 : Int32))] (.int (0 : Int32)) := ((f330.ext E329).keep Kq333 (ninS ne_b301_b329 nin0))
                have f514 : Arv Z h333 b308 k308 .int (3 : Int32) [(.int vp4), (.int vp3), (.int (1 : Int32))] (.int (0 : Int32)) := ((f331.ext E329).keep Kq333 (ninS ne_b308_b329 nin0))
                have f515 : Arv Z h333 b313 k313 .double (5 : Int32) [(.double (0 : UInt64)), (.double (0 : UInt64)), (.double (4607182418800017408 : UInt64)), (.double (4611686018427387904 : UInt64)), (.double (4613937818241073152 : UInt64))] (.double (0 : UInt64)) := ((f332.ext E329).keep Kq333 (ninS ne_b313_b329 nin0))
                have f516 : Arv Z h333 b321 k321 .int (4 : Int32) [(.int (1 : Int32)), (.int (2 : Int32)), (.int (3 : Int32)), (.int (4 : Int32))] (.int (0 : Int32)) := ((V328.ext E329).keep Kq333 (ninS ne_b321_b329 nin0))
                obtain ⟨T512, h512, k512, X512, e512, E512, A512, st512⟩ := newP X333 hx hZ (hw _ (List.mem_of_getElem? (i := 5) rfl)) e333 (g := (mkF m 329 #[.val (.int ish), .val (.int ind), .val (.int iln), .val (.int ie0), .val (.int ie1), .val (.int ie2), .val (.int vp3), .val (.int vp4), .val (.int (1 : Int32)), .val (.int vn), .val (.int (2 : Int32)), .val (.int (1 : Int32)), .val (.int (0 : Int32)), .val (.ref b301), .val (.ref b308), .val (.ref b313), .val (.ref b321), .val (.ref b329), .unset, .unset, .unset, .unset, .unset, .unset, .unset, .unset] [(.int (3 : Int32))])) rfl (hb hby at_329) rfl (by decide) (cap := 3) (by decide) (by decide) (by decide) (by decide)
                obtain ⟨b512, g512⟩ : ∃ z, z = h333.size := ⟨_, rfl⟩
                rw [← g512] at A512 st512
                refine Go.step st512 ?_
                have g_b512 : n0 ≤ b512 := Nat.le_trans Z333 (Nat.le_of_eq g512.symm)
                have ne_b301_b512 : b301 ≠ b512 := Nat.ne_of_lt (Nat.lt_of_lt_of_le f513.lt (Nat.le_of_eq g512.symm))
                have ne_b308_b512 : b308 ≠ b512 := Nat.ne_of_lt (Nat.lt_of_lt_of_le f514.lt (Nat.le_of_eq g512.symm))
                have ne_b313_b512 : b313 ≠ b512 := Nat.ne_of_lt (Nat.lt_of_lt_of_le f515.lt (Nat.le_of_eq g512.symm))
                have ne_b321_b512 : b321 ≠ b512 := Nat.ne_of_lt (Nat.lt_of_lt_of_le f516.lt (Nat.le_of_eq g512.symm))
                have ne_b329_b512 : b329 ≠ b512 := Nat.ne_of_lt (Nat.lt_of_lt_of_le E1_333.lt (Nat.le_of_eq g512.symm))
                have Z512 : n0 ≤ h512.size := Nat.le_trans Z333 E512.1
                have V512 : Arv Z h512 b512 k512 .int (3 : Int32) [] (.int (0 : Int32)) := Arv.new A512 (by decide)
                have V517 : Arv Z h512 b512 k512 .int (3 : Int32) [(.int (0 : Int32)), (.int (0 : Int32)), (.int (0 : Int32))] (.int (0 : Int32)) := (V512).pad (pad_rep [] (.int (0 : Int32)) 3)
                show Go _ _ _ _ _ _ _ T512 (mkF m 331 #[.val (.int ish), .val (.int ind), .val (.int iln), .val (.int ie0), .val (.int ie1), .val (.int ie2), .val (.int vp3), .val (.int vp4), .val (.int (1 : Int32)), .val (.int vn), .val (.int (2 : Int32)), .val (.int (1 : Int32)), .val (.int (0 : Int32)), .val (.ref b301), .val (.ref b308), .val (.ref b313), .val (.ref b321), .val (.ref b329), .unset, .unset, .unset, .unset, .unset, .unset, .unset, .unset] [(.ref b512)])
                refine Go.step (fun _ k => XS.dup X512.here hx rfl (hb hby at_331) rfl rfl k) ?_
                refine Go.step (fun _ k => XS.iconst X512.here hx rfl (hb hby at_332) k) ?_
                refine Go.step (fun _ k => XS.iload X512.here hx rfl (hb hby at_333) rfl k) ?_
                obtain ⟨cl518, Ar518, q518, S518, M518, H518, G518⟩ := id (V517)
                have hin518 : ¬ ((0 : Int32) < 0 ∨ cl518.slots.size ≤ ((0 : Int32)).toNatClampNeg) := inb_of S518 ⟨by decide, by decide⟩
                obtain ⟨T518, h518, X518, e518, W518, st518⟩ := stI X512 hx hZ e512 Ar518 (j := (0 : Int32)) hin518 (g := (mkF m 335 #[.val (.int ish), .val (.int ind), .val (.int iln), .val (.int ie0), .val (.int ie1), .val (.int ie2), .val (.int vp3), .val (.int vp4), .val (.int (1 : Int32)), .val (.int vn), .val (.int (2 : Int32)), .val (.int (1 : Int32)), .val (.int (0 : Int32)), .val (.ref b301), .val (.ref b308), .val (.ref b313), .val (.ref b321), .val (.ref b329), .unset, .unset, .unset, .unset, .unset, .unset, .unset, .unset] [(.int (2 : Int32)), (.int (0 : Int32)), (.ref b512), (.ref b512)])) rfl rfl (hb hby at_335)
                refine Go.step st518 ?_
                have V518 : Arv Z h518 b512 k512 .int (3 : Int32) [(.int (2 : Int32)), (.int (0 : Int32)), (.int (0 : Int32))] (.int (0 : Int32)) := Arv.set Ar518 q518 S518 M518 H518 G518 rfl W518 0 rfl (Nat.le_of_ble_eq_true rfl)
                have N518 := Fr.snoc X518 N333 g_b512
                have Z518 : n0 ≤ h518.size := Nat.le_trans Z512 (Keep.of_wr W518).1
                show Go _ _ _ _ _ _ _ T518 (mkF m 336 #[.val (.int ish), .val (.int ind), .val (.int iln), .val (.int ie0), .val (.int ie1), .val (.int ie2), .val (.int vp3), .val (.int vp4), .val (.int (1 : Int32)), .val (.int vn), .val (.int (2 : Int32)), .val (.int (1 : Int32)), .val (.int (0 : Int32)), .val (.ref b301), .val (.ref b308), .val (.ref b313), .val (.ref b321), .val (.ref b329), .unset, .unset, .unset, .unset, .unset, .unset, .unset, .unset] [(.ref b512)])
                refine Go.step (fun _ k => XS.dup X518.here hx rfl (hb hby at_336) rfl rfl k) ?_
                refine Go.step (fun _ k => XS.iconst X518.here hx rfl (hb hby at_337) k) ?_
                refine Go.step (fun _ k => XS.iload X518.here hx rfl (hb hby at_338) rfl k) ?_
                obtain ⟨cl519, Ar519, q519, S519, M519, H519, G519⟩ := id (V518)
                have hin519 : ¬ ((1 : Int32) < 0 ∨ cl519.slots.size ≤ ((1 : Int32)).toNatClampNeg) := inb_of S519 ⟨by decide, by decide⟩
                obtain ⟨T519, h519, X519, e519, W519, st519⟩ := stI X518 hx hZ e518 Ar519 (j := (1 : Int32)) hin519 (g := (mkF m 340 #[.val (.int ish), .val (.int ind), .val (.int iln), .val (.int ie0), .val (.int ie1), .val (.int ie2), .val (.int vp3), .val (.int vp4), .val (.int (1 : Int32)), .val (.int vn), .val (.int (2 : Int32)), .val (.int (1 : Int32)), .val (.int (0 : Int32)), .val (.ref b301), .val (.ref b308), .val (.ref b313), .val (.ref b321), .val (.ref b329), .unset, .unset, .unset, .unset, .unset, .unset, .unset, .unset] [(.int (1 : Int32)), (.int (1 : Int32)), (.ref b512), (.ref b512)])) rfl rfl (hb hby at_340)
                refine Go.step st519 ?_
                have V519 : Arv Z h519 b512 k512 .int (3 : Int32) [(.int (2 : Int32)), (.int (1 : Int32)), (.int (0 : Int32))] (.int (0 : Int32)) := Arv.set Ar519 q519 S519 M519 H519 G519 rfl W519 1 rfl (Nat.le_of_ble_eq_true rfl)
                have N519 := Fr.snoc X519 N518 g_b512
                have Z519 : n0 ≤ h519.size := Nat.le_trans Z518 (Keep.of_wr W519).1
                show Go _ _ _ _ _ _ _ T519 (mkF m 341 #[.val (.int ish), .val (.int ind), .val (.int iln), .val (.int ie0), .val (.int ie1), .val (.int ie2), .val (.int vp3), .val (.int vp4), .val (.int (1 : Int32)), .val (.int vn), .val (.int (2 : Int32)), .val (.int (1 : Int32)), .val (.int (0 : Int32)), .val (.ref b301), .val (.ref b308), .val (.ref b313), .val (.ref b321), .val (.ref b329), .unset, .unset, .unset, .unset, .unset, .unset, .unset, .unset] [(.ref b512)])
                refine Go.step (fun _ k => XS.dup X519.here hx rfl (hb hby at_341) rfl rfl k) ?_
                refine Go.step (fun _ k => XS.iconst X519.here hx rfl (hb hby at_342) k) ?_
                refine Go.step (fun _ k => XS.iload X519.here hx rfl (hb hby at_343) rfl k) ?_
                obtain ⟨cl520, Ar520, q520, S520, M520, H520, G520⟩ := id (V519)
                have hin520 : ¬ ((2 : Int32) < 0 ∨ cl520.slots.size ≤ ((2 : Int32)).toNatClampNeg) := inb_of S520 ⟨by decide, by decide⟩
                obtain ⟨T520, h520, X520, e520, W520, st520⟩ := stI X519 hx hZ e519 Ar520 (j := (2 : Int32)) hin520 (g := (mkF m 345 #[.val (.int ish), .val (.int ind), .val (.int iln), .val (.int ie0), .val (.int ie1), .val (.int ie2), .val (.int vp3), .val (.int vp4), .val (.int (1 : Int32)), .val (.int vn), .val (.int (2 : Int32)), .val (.int (1 : Int32)), .val (.int (0 : Int32)), .val (.ref b301), .val (.ref b308), .val (.ref b313), .val (.ref b321), .val (.ref b329), .unset, .unset, .unset, .unset, .unset, .unset, .unset, .unset] [(.int (0 : Int32)), (.int (2 : Int32)), (.ref b512), (.ref b512)])) rfl rfl (hb hby at_345)
                refine Go.step st520 ?_
                have V520 : Arv Z h520 b512 k512 .int (3 : Int32) [(.int (2 : Int32)), (.int (1 : Int32)), (.int (0 : Int32))] (.int (0 : Int32)) := Arv.set Ar520 q520 S520 M520 H520 G520 rfl W520 2 rfl (Nat.le_of_ble_eq_true rfl)
                have N520 := Fr.snoc X520 N519 g_b512
                have Z520 : n0 ≤ h520.size := Nat.le_trans Z519 (Keep.of_wr W520).1
                show Go _ _ _ _ _ _ _ T520 (mkF m 346 #[.val (.int ish), .val (.int ind), .val (.int iln), .val (.int ie0), .val (.int ie1), .val (.int ie2), .val (.int vp3), .val (.int vp4), .val (.int (1 : Int32)), .val (.int vn), .val (.int (2 : Int32)), .val (.int (1 : Int32)), .val (.int (0 : Int32)), .val (.ref b301), .val (.ref b308), .val (.ref b313), .val (.ref b321), .val (.ref b329), .unset, .unset, .unset, .unset, .unset, .unset, .unset, .unset] [(.ref b512)])
                refine Go.step (fun _ k => XS.astore X520.here hx rfl (hb hby at_346) rfl rfl (l' := #[.val (.int ish), .val (.int ind), .val (.int iln), .val (.int ie0), .val (.int ie1), .val (.int ie2), .val (.int vp3), .val (.int vp4), .val (.int (1 : Int32)), .val (.int vn), .val (.int (2 : Int32)), .val (.int (1 : Int32)), .val (.int (0 : Int32)), .val (.ref b301), .val (.ref b308), .val (.ref b313), .val (.ref b321), .val (.ref b329), .val (.ref b512), .unset, .unset, .unset, .unset, .unset, .unset, .unset]) rfl k) ?_
                show Go _ _ _ _ _ _ _ T520 (mkF m 348 #[.val (.int ish), .val (.int ind), .val (.int iln), .val (.int ie0), .val (.int ie1), .val (.int ie2), .val (.int vp3), .val (.int vp4), .val (.int (1 : Int32)), .val (.int vn), .val (.int (2 : Int32)), .val (.int (1 : Int32)), .val (.int (0 : Int32)), .val (.ref b301), .val (.ref b308), .val (.ref b313), .val (.ref b321), .val (.ref b329), .val (.ref b512), .unset, .unset, .unset, .unset, .unset, .unset, .unset] [])
                have f521 : Exa Z h520 b329 "com/example/wayfront/wayfront/paths/ShortestPathTree" := ((((E1_333.ext E512).wr W518).wr W519).wr W520)
                have f522 : Fld Z h520 b329 "com/example/wayfront/wayfront/paths/ShortestPathTree" "predecessor" "[I" (.ref b301) := ((((Fp_333.ext E512).other W518 (Or.inl ne_b329_b512)).other W519 (Or.inl ne_b329_b512)).other W520 (Or.inl ne_b329_b512))
                have f523 : Fld Z h520 b329 "com/example/wayfront/wayfront/paths/ShortestPathTree" "tail" "[I" (.ref b308) := ((((Ft_333.ext E512).other W518 (Or.inl ne_b329_b512)).other W519 (Or.inl ne_b329_b512)).other W520 (Or.inl ne_b329_b512))
                have f524 : Arv Z h520 b301 k301 .int (5 : Int32) [(.int (-1 : Int32)), (.int (-1 : Int32)), (.int (2 : Int32)), (.int (1 : Int32)), (.int (0 : Int32))] (.int (0 : Int32)) := ((((f513.ext E512).other W518 ne_b301_b512).other W519 ne_b301_b512).other W520 ne_b301_b512)
                have f525 : Arv Z h520 b308 k308 .int (3 : Int32) [(.int vp4), (.int vp3), (.int (1 : Int32))] (.int (0 : Int32)) := ((((f514.ext E512).other W518 ne_b308_b512).other W519 ne_b308_b512).other W520 ne_b308_b512)
                exact J T520 h520 _ b512 k512 (3 : Int32) ([(2 : Int32), (1 : Int32), (0 : Int32)] : List Int32) ([0, 1, 2] : List Int32) (X520.more (by decide) (by decide)) e520 N520 Z520 f521 f522 f523 f524 f525 V520 rfl (by decide) (by decide) rfl (by have e_vn : vn = 4 := (own_ar26 vn b_vn hc188_419 hc202_431 hc221_444); have e_p4 : vp4 = 3 := (own_ar27 vp4 b_vp4 hc264_471 hc283_484); have e_p3 : vp3 = 2 := (own_ar28 vp3 b_vp3 hc307_498); rw [e_vn, e_p4, e_p3]; exact ⟨(show 0 ≤ (4 : Int32).toInt ∧ (4 : Int32).toInt < 5 from by decide), rfl, (show 0 ≤ (0 : Int32).toInt ∧ (0 : Int32).toInt < 3 from by decide), ⟨(show 0 ≤ (3 : Int32).toInt ∧ (3 : Int32).toInt < 5 from by decide), rfl, (show 0 ≤ (1 : Int32).toInt ∧ (1 : Int32).toInt < 3 from by decide), ⟨(show 0 ≤ (2 : Int32).toInt ∧ (2 : Int32).toInt < 5 from by decide), rfl, (show 0 ≤ (2 : Int32).toInt ∧ (2 : Int32).toInt < 3 from by decide), ⟨(show 0 ≤ (1 : Int32).toInt ∧ (1 : Int32).toInt < 5 from by decide), (show (-1 : Int32) < 0 from by decide)⟩⟩⟩⟩)
set_option maxRecDepth 65536 in
set_option maxHeartbeats 40000000 in
theorem comes_1 {Post : Tables → Env → Array Value → State → Outcome → State → Prop} (hpost : ∀ tb e args s v u, (limb_1_1.after args s (.returned v) u = true ∧ limb_1_2.after args s (.returned v) u = true ∧ True) → FrameEnd s (.returned v) u (Jvm.fieldLocs frame_1_writes args s ++ Jvm.arrayLocs frame_1_arrays args s ++ Jvm.staticLocs frame_1_statics s) 24 128 → Post tb e args s (.returned v) u) :
    ArmFor flags0 classFile x code maxLocals ret World_1 tables_1 room_1 Calls_1 rest_1 Pre_1 Post := by
  intro l hfl _ _ p e ha hc hk s m args below hf hA hF happ hP
  obtain ⟨hcalls, hrest, hpre⟩ := hP
  obtain ⟨-, -, -, hnamed, -, -, -, hat⟩ := (Spec.applies_iff hf).mp happ
  obtain ⟨hg, hn⟩ := and_e (Cond.before_iff.mp (show (Jvm.Cond.and given_1 narrow_1).before args s = true from hpre))
  obtain ⟨gg1, gg2⟩ := and_e hg
  obtain ⟨gg3, gg4⟩ := and_e gg2
  obtain ⟨gg5, gg6⟩ := and_e gg4
  obtain ⟨gg7, gg8⟩ := and_e gg6
  obtain ⟨gg9, gg10⟩ := and_e gg8
  obtain ⟨gg11, gg12⟩ := and_e gg10
  obtain ⟨w0, w1, w2, w3, w4, w5, rfl⟩ : ∃ w0 w1 w2 w3 w4 w5 : Value, args = #[w0, w1, w2, w3, w4, w5] := by
    have hs : args.size = 6 := by simpa [Cond.value, given_1] using gg1
    obtain ⟨L⟩ := args
    match L, hs with
    | [w0, w1, w2, w3, w4, w5], _ => exact ⟨w0, w1, w2, w3, w4, w5, rfl⟩
  have hw := fun d (hd : d ∈ tables_1) => atoms_spec (ws := Jvm.Cond.code x code maxLocals ret :: tables_1) hat d (List.mem_cons_of_mem _ hd)
  have hfit : Fit s := fun {y c} hc i hi => by
    obtain ⟨ha, rfl⟩ := Array.getElem?_eq_some_iff.mp hc
    have q := List.all_eq_true.mp ((Array.all_eq_true_iff_forall_mem.mp hF) _ (Array.getElem_mem ha)) i (List.mem_range.mpr hi)
    simpa [Array.getElem?_eq_getElem hi] using q
  obtain ⟨ish, ei0⟩ := is_v gg3
  obtain rfl : w0 = (.int ish) := Option.some.inj ei0
  obtain ⟨ind, ei1⟩ := is_v gg5
  obtain rfl : w1 = (.int ind) := Option.some.inj ei1
  obtain ⟨iln, ei2⟩ := is_v gg7
  obtain rfl : w2 = (.int iln) := Option.some.inj ei2
  obtain ⟨ie0, ei3⟩ := is_v gg9
  obtain rfl : w3 = (.int ie0) := Option.some.inj ei3
  obtain ⟨ie1, ei4⟩ := is_v gg11
  obtain rfl : w4 = (.int ie1) := Option.some.inj ei4
  obtain ⟨ie2, ei5⟩ := is_v gg12
  obtain rfl : w5 = (.int ie2) := Option.some.inj ei5
  obtain ⟨n, o, h1, h2, h3, _, L, rfl, ⟨rfl, N, -⟩, hq⟩ := rm0 l s _ hw tables_1 ish ind iln ie0 ie1 ie2 s.heap s.heap.size (Nat.le_refl _)  p e ha hc hk s m _ below hf ((Spec.applies_iff_loose hf).mp happ).1 ⟨rfl, State.Warmed39.refl s, rfl⟩ trivial
  refine ⟨n, _, h1, h2, h3, hpost _ _ _ _ _ _ ⟨Cond.after_iff.mpr rfl, Cond.after_iff.mpr (eq_i res_at (Term.int_eval (1)) rfl), trivial⟩ ⟨hq.1, hq.2.1, (hq.2.2.sift fun y hy => Or.inr (N y hy)).mono (by decide) (by decide)⟩⟩
theorem main_1_1 : Claimed_1_1 := comes_1 fun _ _ _ _ _ _ h hF => ⟨h.1, hF⟩
theorem main_1_2 : Claimed_1_2 := comes_1 fun _ _ _ _ _ _ h hF => ⟨h.2.1, hF⟩
end Jvm.Pilot.@@N@@
namespace Jvm.Pilot.@@N@@
open Jvm Jvm.ClassFile Sem Op Lib Jvm.Free Jvm.Stand Jvm.Pilot.@@N@@.Jvm.D
/-! MADE BY PROGRAM (witnessworld.py) out of the Statement's table words and the real class files: 9 classes; the members and pool entries that the words name. The judged class is class 1, her method 3. -/
namespace start1
open Jvm.ClassFile
def u (s : String) : CpInfo := .utf8 (stringToUtf16 s)
/-- a pool by its gaps: so many unusable entries, then the entry; so many at the end -/
def gap : Nat → List CpInfo → List CpInfo
  | 0, r => r
  | n + 1, r => .unusable :: gap n r
def poolList (es : List (Nat × CpInfo)) (last : Nat) : List CpInfo := es.foldr (fun e r => gap e.1 (e.2 :: r)) (gap last [])
def pool (es : List (Nat × CpInfo)) (last : Nat) : Array CpInfo := ⟨poolList es last⟩
def fileOf (pool : Array CpInfo) (this : Nat) (attrs : Array Attribute := #[]) (ms : Array MethodInfo := #[]) (fl : Nat := 33) (sup : Nat := 0) (ifs : Array Nat := #[]) (fds : Array FieldInfo := #[]) : ClassFile where
  minorVersion := 0
  majorVersion := 65
  constantPool := pool
  accessFlags := fl
  thisClass := this
  superClass := sup
  interfaces := ifs
  fields := fds
  methods := ms
  attributes := attrs
def plain (name : String) (sup : Option ClassId) : Class where
  name := name
  kind := .ordinary
  loader := none
  accessFlags := 33
  super := sup
  interfaces := #[]
  cf := none
  fields := #[]
  methods := #[]
  instanceTypes := #[]
  staticTypes := #[]
  resolved := #[]
  callSites := []
  init := .initialized
  statics := none
  mirror := none

def pool0 : Array CpInfo := pool [(5, u "<init>"), (0, u "()V"), (1, .class_ 10), (1, u "java/lang/Object")] 113

def k0c0 : Code := { maxStack := 0, maxLocals := 1, code := object_method_1_code, exceptionTable := #[], attributes := #[] }
def k0m0 : Method := { name := "<init>", desc := "()V", sig := { parameters := [], returnType := none }, accessFlags := 1, code := some k0c0 }
/-- java/lang/Object -/
def k0 : Class := { plain "java/lang/Object" none with
  accessFlags := 33
  interfaces := #[]
  cf := some (fileOf pool0 8 #[] #[{ accessFlags := 1, nameIndex := 5, descriptorIndex := 6, attributes := #[] }] 33 0 #[] #[])
  fields := #[]
  methods := #[k0m0]
  instanceTypes := #[]
  staticTypes := #[]
  resolved := Array.replicate 124 none
  statics := none }

def pool1 : Array CpInfo := pool [(2, .class_ 4), (1, u "java/lang/Object"), (0, u "<init>"), (0, u "()V"), (0, .integer 2147483647), (0, .methodref 9 10), (0, .class_ 11), (0, .nameAndType 12 13), (0, u "com/example/wayfront/wayfront/paths/ShortestPathTreeIsPathToPinLaw"), (0, u "link"), (0, u "(II)I"), (0, .double 4611686018427387904), (1, .double 4613937818241073152), (1, .class_ 19), (0, u "com/example/wayfront/wayfront/paths/ShortestPathTree"), (0, .methodref 18 21), (0, .nameAndType 5 22), (0, u "(I[D[I[I[I)V"), (0, .methodref 18 24), (0, .nameAndType 25 26), (0, u "isPathTo"), (0, u "(I[I)Z"), (0, .methodref 9 28), (0, .nameAndType 29 30), (0, u "same"), (0, u "([I[I)Z"), (3, u "law"), (0, u "(IIIIII)Z")] 6

def k1m0 : Method := { name := "<init>", desc := "()V", sig := { parameters := [], returnType := none }, accessFlags := 1, code := none }
def k1c1 : Code := { maxStack := 2, maxLocals := 2, code := method_2_code, exceptionTable := #[], attributes := #[] }
def k1m1 : Method := { name := "link", desc := "(II)I", sig := { parameters := [.int, .int], returnType := some .int }, accessFlags := 10, code := some k1c1 }
def k1c2 : Code := { maxStack := 3, maxLocals := 2, code := method_3_code, exceptionTable := #[], attributes := #[] }
def k1m2 : Method := { name := "same", desc := "([I[I)Z", sig := { parameters := [(.array .int), (.array .int)], returnType := some .boolean }, accessFlags := 10, code := some k1c2 }
def k1c3 : Code := { maxStack := 7, maxLocals := 26, code := code, exceptionTable := #[], attributes := #[] }
def k1m3 : Method := { name := "law", desc := "(IIIIII)Z", sig := { parameters := [.int, .int, .int, .int, .int, .int], returnType := some .boolean }, accessFlags := 9, code := some k1c3 }
/-- com/example/wayfront/wayfront/paths/ShortestPathTreeIsPathToPinLaw -/
def k1 : Class := { plain "com/example/wayfront/wayfront/paths/ShortestPathTreeIsPathToPinLaw" (some 0) with
  accessFlags := 49
  interfaces := #[]
  cf := some (fileOf pool1 9 #[] #[{ accessFlags := 1, nameIndex := 5, descriptorIndex := 6, attributes := #[] }, { accessFlags := 10, nameIndex := 12, descriptorIndex := 13, attributes := #[] }, { accessFlags := 10, nameIndex := 29, descriptorIndex := 30, attributes := #[] }, { accessFlags := 9, nameIndex := 34, descriptorIndex := 35, attributes := #[] }] 49 2 #[] #[])
  fields := #[]
  methods := #[k1m0, k1m1, k1m2, k1m3]
  instanceTypes := #[]
  staticTypes := #[]
  resolved := Array.replicate 42 none
  statics := none }

def pool2 : Array CpInfo := pool [(1, .methodref 2 3), (0, .class_ 4), (0, .nameAndType 5 6), (0, u "java/lang/Object"), (0, u "<init>"), (0, u "()V"), (0, .fieldref 8 9), (0, .class_ 10), (0, .nameAndType 11 12), (0, u "com/example/wayfront/wayfront/paths/ShortestPathTree"), (0, u "origin"), (0, u "I"), (0, .fieldref 8 14), (0, .nameAndType 15 16), (0, u "distance"), (0, u "[D"), (0, .fieldref 8 18), (0, .nameAndType 19 20), (0, u "predecessor"), (0, u "[I"), (0, .fieldref 8 22), (0, .nameAndType 23 20), (0, u "order"), (0, .fieldref 8 25), (0, .nameAndType 26 20), (0, u "tail"), (23, u "(I[D[I[I[I)V"), (10, u "isPathTo"), (0, u "(I[I)Z")] 21

def k2c0 : Code := { maxStack := 2, maxLocals := 6, code := prog_45_method_1_code, exceptionTable := #[], attributes := #[] }
def k2m0 : Method := { name := "<init>", desc := "(I[D[I[I[I)V", sig := { parameters := [.int, (.array .double), (.array .int), (.array .int), (.array .int)], returnType := none }, accessFlags := 0, code := some k2c0 }
def k2c1 : Code := { maxStack := 3, maxLocals := 5, code := prog_45_method_7_code, exceptionTable := #[], attributes := #[] }
def k2m1 : Method := { name := "isPathTo", desc := "(I[I)Z", sig := { parameters := [.int, (.array .int)], returnType := some .boolean }, accessFlags := 1, code := some k2c1 }
/-- com/example/wayfront/wayfront/paths/ShortestPathTree -/
def k2 : Class := { plain "com/example/wayfront/wayfront/paths/ShortestPathTree" (some 0) with
  accessFlags := 49
  interfaces := #[]
  cf := some (fileOf pool2 8 #[] #[{ accessFlags := 0, nameIndex := 5, descriptorIndex := 50, attributes := #[] }, { accessFlags := 1, nameIndex := 61, descriptorIndex := 62, attributes := #[] }] 49 2 #[] #[{ accessFlags := 18, nameIndex := 11, descriptorIndex := 12, attributes := #[] }, { accessFlags := 18, nameIndex := 15, descriptorIndex := 16, attributes := #[] }, { accessFlags := 18, nameIndex := 19, descriptorIndex := 20, attributes := #[] }, { accessFlags := 18, nameIndex := 23, descriptorIndex := 20, attributes := #[] }, { accessFlags := 18, nameIndex := 26, descriptorIndex := 20, attributes := #[] }])
  fields := #[{ name := "origin", type := .int, accessFlags := 18, slot := 0, constantValue := 0 }, { name := "distance", type := (.array .double), accessFlags := 18, slot := 1, constantValue := 0 }, { name := "predecessor", type := (.array .int), accessFlags := 18, slot := 2, constantValue := 0 }, { name := "order", type := (.array .int), accessFlags := 18, slot := 3, constantValue := 0 }, { name := "tail", type := (.array .int), accessFlags := 18, slot := 4, constantValue := 0 }]
  methods := #[k2m0, k2m1]
  instanceTypes := #[.int, (.array .double), (.array .int), (.array .int), (.array .int)]
  staticTypes := #[]
  resolved := Array.replicate 84 none
  statics := none }

def pool3 : Array CpInfo := pool [(1, u "java/lang/Cloneable"), (0, .class_ 1), (0, u "java/lang/Object"), (0, .class_ 3)] 3

/-- java/lang/Cloneable -/
def k3 : Class := { plain "java/lang/Cloneable" (some 0) with
  accessFlags := 1537
  interfaces := #[]
  cf := some (fileOf pool3 2 #[] #[] 1537 4 #[] #[])
  fields := #[]
  methods := #[]
  instanceTypes := #[]
  staticTypes := #[]
  resolved := Array.replicate 8 none
  statics := none }

def pool4 : Array CpInfo := pool [(1, u "java/io/Serializable"), (0, .class_ 1), (0, u "java/lang/Object"), (0, .class_ 3)] 3

/-- java/io/Serializable -/
def k4 : Class := { plain "java/io/Serializable" (some 0) with
  accessFlags := 1537
  interfaces := #[]
  cf := some (fileOf pool4 2 #[] #[] 1537 4 #[] #[])
  fields := #[]
  methods := #[]
  instanceTypes := #[]
  staticTypes := #[]
  resolved := Array.replicate 8 none
  statics := none }

/-- the primitive byte -/
def k5 : Class := { plain "byte" none with kind := .primitive 'B', accessFlags := 0x411 }
/-- [B -/
def k6 : Class := { plain "[B" (some 0) with kind := .array 5 .byte, interfaces := #[3, 4], accessFlags := 1041 }

/-- the primitive int -/
def k7 : Class := { plain "int" none with kind := .primitive 'I', accessFlags := 0x411 }
/-- [I -/
def k8 : Class := { plain "[I" (some 0) with kind := .array 7 .int, interfaces := #[3, 4], accessFlags := 1041 }

def heap : Heap := #[]
def k9 : Class := { plain "double" none with kind := .primitive 'D', accessFlags := 0x411 }
def k10 : Class := { plain "[D" (some 0) with kind := .array 9 .double, interfaces := #[3, 4], accessFlags := 1041 }
def classes : Array Class := #[k0, k1, k2, k3, k4, k5, k6, k7, k8, k9, k10]
def interned : List (Array UInt16 × Addr) := []
def slotsUsed : Nat := 0
def theMethod : MethodId := ⟨1, 3⟩
def args0 : Array Value := #[.int 5, .int 7, .int 3, .int 2, .int 1, .int 4]
def aboutOver (below : List Frame) : State where
  vm := { classes := classes, interned := interned.toArray }
  heap := heap
  slotsUsed := slotsUsed
  threads := #[{ frames := .invoking theMethod args0 :: below }]
def below0 : List Frame := [.native { method := ⟨0, 0⟩, args := #[] }]
def about1 : State := aboutOver below0
def p0 : Program := .bare "" "" ""
def e0 : Env := launch0.env 0 0 0
theorem w_frames : about1.frames = Frame.invoking theMethod args0 :: below0 := rfl
set_option maxRecDepth 65536 in
theorem w_args : argsFit about1.vm theMethod args0 = true := by decide +kernel
set_option maxRecDepth 65536 in
theorem w_heap : heapFits about1 = true := by decide +kernel
set_option maxRecDepth 65536 in
theorem w_runnable : about1.curStatus? = some .runnable := by decide +kernel
set_option maxRecDepth 65536 in
theorem w_alone : about1.alone = true := by decide +kernel
set_option maxRecDepth 65536 in
theorem w_named : about1.methodNamed? x = some theMethod := by decide +kernel
set_option maxRecDepth 65536 in
theorem w_hears : about1.hears theMethod below0 = true := by decide +kernel
set_option maxRecDepth 65536 in
theorem w_ripe : about1.ripe theMethod args0 below0 = true := by decide +kernel
theorem w_running : about1.status = .running := rfl
set_option maxRecDepth 65536 in
theorem w_room : about1.hasRoom e0.platform room_1 = true :=
  launch0.hasRoom_least _ room_1 (by decide +kernel) (by decide +kernel) (by decide +kernel) (by decide +kernel) (by decide +kernel) (by decide +kernel)
theorem allAtoms_all (ts : List Jvm.Cond) (a : Array Jvm.Value) (st : Jvm.State) : (allAtoms ts).before a st = ts.all (fun c => c.before a st) := by
  induction ts with
  | nil => rfl
  | cons c t ih =>
    show (Jvm.Cond.and c (allAtoms t)).before a st = _
    rw [Jvm.Cond.before_and, ih, List.all_cons]
def words1 : List Jvm.Cond := Jvm.Cond.code x code maxLocals ret :: tables_1
/-- a 'code' word, met by the world's own term for the bytes: nothing is compared byte by byte -/
theorem code_word {y : MethodName} {bytes : ByteArray} {mx : Nat} {rt : Option FieldType} {a : Array Value} {s : State} {m : MethodId} {meth : Method} {c : Code} (h1 : s.methodNamed? y = some m) (h2 : s.vm.method? m = some meth) (h3 : meth.code = some c) (h4 : c.code = bytes)
    (h5 : (c.maxLocals == mx && c.exceptionTable.isEmpty && decide (c.maxStack ≤ mostOperands) && decide (meth.sig.returnType = rt) && !meth.locks && decide (parseMethodDescriptor y.desc = some meth.sig)) = true) : (Jvm.Cond.code y bytes mx rt).before a s = true := by
  simp only [Bool.and_eq_true, beq_iff_eq, Bool.not_eq_true', decide_eq_true_eq] at h5
  obtain ⟨⟨⟨⟨⟨g1, g2⟩, g3⟩, g4⟩, g5⟩, g6⟩ := h5
  simp [Cond.before, Cond.holds, Cond.value, h1, h2, h3, h4, g1, g2, g3, g4, g5, g6]
def isCode : Jvm.Cond → Bool
  | .code _ _ _ _ => true
  | _ => false
theorem all_split {L : List Jvm.Cond} {P : Jvm.Cond → Bool} (h1 : L.all (fun c => isCode c || P c) = true) (h2 : ∀ c ∈ L.filter isCode, P c = true) : L.all P = true := by
  refine List.all_eq_true.mpr fun c hc => ?_
  have h := List.all_eq_true.mp h1 c hc
  rcases Bool.eq_false_or_eq_true (isCode c) with hi | hi
  · exact h2 c (List.mem_filter.mpr ⟨hc, hi⟩)
  · simpa [hi] using h
set_option maxRecDepth 65536 in
theorem w_c0 : (Jvm.Cond.code x code maxLocals ret).before args0 about1 = true := code_word (m := ⟨1, 3⟩) (meth := k1m3) (c := k1c3) (by decide +kernel) rfl rfl rfl (by decide +kernel)
set_option maxRecDepth 65536 in
theorem w_c1 : (Jvm.Cond.code ({ cls := "com/example/wayfront/wayfront/paths/ShortestPathTreeIsPathToPinLaw", name := "link", desc := "(II)I" } : Jvm.MethodName) method_2_code (2 : Nat) (Option.some Jvm.ClassFile.FieldType.int)).before args0 about1 = true := code_word (m := ⟨1, 1⟩) (meth := k1m1) (c := k1c1) (by decide +kernel) rfl rfl rfl (by decide +kernel)
set_option maxRecDepth 65536 in
theorem w_c2 : (Jvm.Cond.code ({ cls := "com/example/wayfront/wayfront/paths/ShortestPathTree", name := "<init>", desc := "(I[D[I[I[I)V" } : Jvm.MethodName) prog_45_method_1_code (6 : Nat) (Option.none : Option Jvm.ClassFile.FieldType)).before args0 about1 = true := code_word (m := ⟨2, 0⟩) (meth := k2m0) (c := k2c0) (by decide +kernel) rfl rfl rfl (by decide +kernel)
set_option maxRecDepth 65536 in
theorem w_c3 : (Jvm.Cond.code ({ cls := "java/lang/Object", name := "<init>", desc := "()V" } : Jvm.MethodName) object_method_1_code (1 : Nat) (Option.none : Option Jvm.ClassFile.FieldType)).before args0 about1 = true := code_word (m := ⟨0, 0⟩) (meth := k0m0) (c := k0c0) (by decide +kernel) rfl rfl rfl (by decide +kernel)
set_option maxRecDepth 65536 in
theorem w_c4 : (Jvm.Cond.code ({ cls := "com/example/wayfront/wayfront/paths/ShortestPathTree", name := "isPathTo", desc := "(I[I)Z" } : Jvm.MethodName) prog_45_method_7_code (5 : Nat) (Option.some Jvm.ClassFile.FieldType.boolean)).before args0 about1 = true := code_word (m := ⟨2, 1⟩) (meth := k2m1) (c := k2c1) (by decide +kernel) rfl rfl rfl (by decide +kernel)
set_option maxRecDepth 65536 in
theorem w_c5 : (Jvm.Cond.code ({ cls := "com/example/wayfront/wayfront/paths/ShortestPathTreeIsPathToPinLaw", name := "same", desc := "([I[I)Z" } : Jvm.MethodName) method_3_code (2 : Nat) (Option.some Jvm.ClassFile.FieldType.boolean)).before args0 about1 = true := code_word (m := ⟨1, 2⟩) (meth := k1m2) (c := k1c2) (by decide +kernel) rfl rfl rfl (by decide +kernel)
def codes1 : List Jvm.Cond := [Jvm.Cond.code x code maxLocals ret, Jvm.Cond.code ({ cls := "com/example/wayfront/wayfront/paths/ShortestPathTreeIsPathToPinLaw", name := "link", desc := "(II)I" } : Jvm.MethodName) method_2_code (2 : Nat) (Option.some Jvm.ClassFile.FieldType.int), Jvm.Cond.code ({ cls := "com/example/wayfront/wayfront/paths/ShortestPathTree", name := "<init>", desc := "(I[D[I[I[I)V" } : Jvm.MethodName) prog_45_method_1_code (6 : Nat) (Option.none : Option Jvm.ClassFile.FieldType), Jvm.Cond.code ({ cls := "java/lang/Object", name := "<init>", desc := "()V" } : Jvm.MethodName) object_method_1_code (1 : Nat) (Option.none : Option Jvm.ClassFile.FieldType), Jvm.Cond.code ({ cls := "com/example/wayfront/wayfront/paths/ShortestPathTree", name := "isPathTo", desc := "(I[I)Z" } : Jvm.MethodName) prog_45_method_7_code (5 : Nat) (Option.some Jvm.ClassFile.FieldType.boolean), Jvm.Cond.code ({ cls := "com/example/wayfront/wayfront/paths/ShortestPathTreeIsPathToPinLaw", name := "same", desc := "([I[I)Z" } : Jvm.MethodName) method_3_code (2 : Nat) (Option.some Jvm.ClassFile.FieldType.boolean)]
set_option maxRecDepth 65536 in
theorem codes_eq : words1.filter isCode = codes1 := rfl
theorem w_codes : ∀ c ∈ words1.filter isCode, c.before args0 about1 = true := by
  rw [codes_eq]
  intro c hc
  simp only [codes1, List.mem_cons, List.not_mem_nil, or_false] at hc
  rcases hc with rfl | rfl | rfl | rfl | rfl | rfl
  · exact w_c0
  · exact w_c1
  · exact w_c2
  · exact w_c3
  · exact w_c4
  · exact w_c5
set_option maxRecDepth 65536 in
theorem w_t1 : (words1.take 24).all (fun c => isCode c || c.before args0 about1) = true := by decide +kernel
set_option maxRecDepth 65536 in
theorem w_t2 : (words1.drop 24).all (fun c => isCode c || c.before args0 about1) = true := by decide +kernel
theorem w_tables : (allAtoms (Jvm.Cond.code x code maxLocals ret :: tables_1)).before args0 about1 = true := by
  rw [allAtoms_all]
  show words1.all (fun c => c.before args0 about1) = true
  refine all_split ?_ w_codes
  rw [← List.take_append_drop 24 words1, List.all_append, w_t1, w_t2]
  rfl
set_option maxRecDepth 65536 in
theorem w_case : (Jvm.Cond.and given_1 narrow_1).before args0 about1 = true := by decide +kernel
theorem w_applies : (headSpec (Jvm.Cond.code x code maxLocals ret :: tables_1) room_1).applies x e0.platform about1 = true :=
  (Spec.applies_iff w_frames).mpr ⟨w_running, w_runnable, w_alone, w_named, w_hears, w_ripe, w_room, w_tables⟩
theorem atStart : AtStart classFile x code maxLocals ret World_1 tables_1 room_1 Calls_1 rest_1 Pre_1 launch0 p0 e0 about1 theMethod args0 below0 :=
  ⟨lists_1, trivial, launch0.admits_env _ _ _, launch0.least_env, fairChoices_fair.cas, fairChoices_fair.clock, w_frames, w_args, w_heap, w_applies, trivial, trivial, w_case⟩
end start1
theorem witness_1 : WitnessClaimed_1 := ⟨start1.p0, start1.e0, start1.about1, start1.theMethod, start1.args0, start1.below0, start1.atStart⟩
end Jvm.Pilot.@@N@@
