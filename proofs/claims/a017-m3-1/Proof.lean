import JvmDerived
import JvmDerived.Pilot.@@N@@Statement
import JvmDerived.Pilot.@@N@@Code
set_option linter.unusedVariables false
set_option linter.unusedSimpArgs false
namespace Jvm.RoadKit
open Sem ClassFile Op Lib Jvm.Stand Jvm.Free Jvm.LawKit
section OwnGo
variable {p : Program} {l : Launch} {e : Env} {R : Room} {s : State} {m : MethodId} {args : Array Value} {below : List Frame} {meth : Method} {c : Code} {T T' : State} {locs : List Loc} {cells slots kc ks : Nat} {Q : Option Value → Heap → List Loc → Prop} {f f' : JFrame} {h : Heap}
/-- from the state T with the top frame f the body comes to its end, and what it leaves meets Q -/
def Go (p : Program) (e : Env) (below : List Frame) (s : State) (kc ks : Nat) (Q : Option Value → Heap → List Loc → Prop) (T : State) (f : JFrame) : Prop :=
  ∃ (s₂ : State) (o : Outcome), Steps p.tables e below (T.setTop f) s₂ ∧ s₂.status = .running ∧ Ended s₂ below o ∧ ∃ v L, o = .returned v ∧ Q v s₂.heap L ∧ FrameEnd s o s₂ L kc ks
theorem Go.step (h : ∀ target, Steps p.tables e below (T'.setTop f') target → Steps p.tables e below (T.setTop f) target) (k : Go p e below s kc ks Q T' f') : Go p e below s kc ks Q T f := by
  obtain ⟨s₂, o, h1, r⟩ := k
  exact ⟨s₂, o, h _ h1, r⟩
theorem Go.trans (h : Steps p.tables e below (T.setTop f) (T'.setTop f')) (k : Go p e below s kc ks Q T' f') : Go p e below s kc ks Q T f := by
  obtain ⟨s₂, o, h1, r⟩ := k
  exact ⟨s₂, o, h.trans h1, r⟩
theorem Go.cast (q : f = f') (k : Go p e below s kc ks Q T f') : Go p e below s kc ks Q T f := q ▸ k
theorem Go.enter {g : JFrame} {s₁ : State} (k : Go p e below s kc ks Q s₁ f) (q : g = f) :
    ∃ s₂ o, Steps p.tables e below (s₁.setTop g) s₂ ∧ s₂.status = .running ∧ Ended s₂ below o ∧ ∃ v L, o = .returned v ∧ Q v s₂.heap L ∧ FrameEnd s o s₂ L kc ks := by
  subst q; exact k
theorem Go.ret (X : Stand p l e R s m args below meth c T locs cells slots) (hx : p.tables.exec = Jvm.exec) {pc : Nat} {Ls : Array Slot} {w : Value} {t : FieldType} {i : Instr} {rest : List Value} (hret : meth.sig.returnType = some t) (hlk : meth.locks = false) (hn : narrow t w = w)
    (hi : (i = .ireturn ∧ (t = .int ∨ t = .boolean ∨ t = .byte ∨ t = .char ∨ t = .short) ∧ ∃ z, w = .int z) ∨ (i = .lreturn ∧ t = .long ∧ ∃ z, w = .long z) ∨ (i = .dreturn ∧ t = .double ∧ ∃ z, w = .double z) ∨ (i = .freturn ∧ t = .float ∧ ∃ z, w = .float z) ∨ (i = .areturn ∧ t.isReference = true ∧ w.isRef = true))
    (hd : decode c.code pc = .ok (i, 1)) (eT : T.heap = h) (hc : cells ≤ kc) (hs : slots ≤ ks) (hQ : Q (some w) h locs) : Go p e below s kc ks Q T (mkF m pc Ls (w :: rest)) := by
  obtain ⟨fs, hr, hrun, hended, hW, hsame⟩ := X.leave (v := some w) (fun q => by rw [hret] at q; cases q) hlk
  exact ⟨_, _, retOut X hx hret hn hi hd hr, hrun, hended, _, _, rfl, (by subst eT; exact hQ), ⟨_, rfl⟩, hW, hsame.mono hc hs⟩
theorem Go.retI (X : Stand p l e R s m args below meth c T locs cells slots) (hx : p.tables.exec = Jvm.exec) {pc : Nat} {Ls : Array Slot} {z : Int32} {rest : List Value} (hret : meth.sig.returnType = some .int) (hlk : meth.locks = false)
    (hd : decode c.code pc = .ok (.ireturn, 1)) (eT : T.heap = h) (hc : cells ≤ kc) (hs : slots ≤ ks) (hQ : Q (some (.int z)) h locs) : Go p e below s kc ks Q T (mkF m pc Ls (.int z :: rest)) :=
  Go.ret X hx hret hlk rfl (Or.inl ⟨rfl, Or.inl rfl, _, rfl⟩) hd eT hc hs hQ
theorem Go.retJ (X : Stand p l e R s m args below meth c T locs cells slots) (hx : p.tables.exec = Jvm.exec) {pc : Nat} {Ls : Array Slot} {z : Int64} {rest : List Value} (hret : meth.sig.returnType = some .long) (hlk : meth.locks = false)
    (hd : decode c.code pc = .ok (.lreturn, 1)) (eT : T.heap = h) (hc : cells ≤ kc) (hs : slots ≤ ks) (hQ : Q (some (.long z)) h locs) : Go p e below s kc ks Q T (mkF m pc Ls (.long z :: rest)) :=
  Go.ret X hx hret hlk rfl (Or.inr (Or.inl ⟨rfl, rfl, _, rfl⟩)) hd eT hc hs hQ
theorem Go.retA (X : Stand p l e R s m args below meth c T locs cells slots) (hx : p.tables.exec = Jvm.exec) {pc : Nat} {Ls : Array Slot} {w : Value} {t : FieldType} {rest : List Value} (hret : meth.sig.returnType = some t) (hlk : meth.locks = false) (ht : t.isReference = true) (hv : w.isRef = true)
    (hd : decode c.code pc = .ok (.areturn, 1)) (eT : T.heap = h) (hc : cells ≤ kc) (hs : slots ≤ ks) (hQ : Q (some w) h locs) : Go p e below s kc ks Q T (mkF m pc Ls (w :: rest)) :=
  Go.ret X hx hret hlk (by cases t <;> first | (cases ht; done) | (cases w <;> first | (cases hv; done) | rfl)) (Or.inr (Or.inr (Or.inr (Or.inr ⟨rfl, ht, hv⟩)))) hd eT hc hs hQ
theorem Go.retN (X : Stand p l e R s m args below meth c T locs cells slots) (hx : p.tables.exec = Jvm.exec) {pc : Nat} {Ls : Array Slot} {z : Int32} {t : FieldType} {rest : List Value} (hret : meth.sig.returnType = some t) (hlk : meth.locks = false) (ht : t = .boolean ∨ t = .byte ∨ t = .char ∨ t = .short)
    (hd : decode c.code pc = .ok (.ireturn, 1)) (eT : T.heap = h) (hc : cells ≤ kc) (hs : slots ≤ ks) (hQ : Q (some (.int (nar t z))) h locs) : Go p e below s kc ks Q T (mkF m pc Ls (.int z :: rest)) := by
  obtain ⟨fs, hr, hrun, hended, hW, hsame⟩ := X.leave (v := some (.int (nar t z))) (fun q => by rw [hret] at q; cases q) hlk
  exact ⟨_, _, Jvm.RoadKit.retN X hx hret ht hd hr, hrun, hended, _, _, rfl, (by subst eT; exact hQ), ⟨_, rfl⟩, hW, hsame.mono hc hs⟩
theorem Go.ret0 (X : Stand p l e R s m args below meth c T locs cells slots) (hx : p.tables.exec = Jvm.exec) {pc : Nat} {Ls : Array Slot} (hret : meth.sig.returnType = none) (hlk : meth.locks = false)
    (hd : decode c.code pc = .ok (.return_, 1)) (eT : T.heap = h) (hc : cells ≤ kc) (hs : slots ≤ ks) (hQ : Q none h locs) : Go p e below s kc ks Q T (mkF m pc Ls []) := by
  obtain ⟨fs, hr, hrun, hended, hW, hsame⟩ := X.leave (v := none) (fun _ => rfl) hlk
  exact ⟨_, _, X.returnOut hx hret hd hr, hrun, hended, _, _, rfl, (by subst eT; exact hQ), ⟨_, rfl⟩, hW, hsame.mono hc hs⟩
theorem own_selp {args' : Array Value} {y : MethodName} {n : Nat} (wi : (Cond.instantiable y.cls n).before args' s = true) (hpriv : s.PrivateAt y) (hinst : (Cond.instanceMethod y).before args' s = true) (hy : y.cls ≠ "java/lang/invoke/MethodHandle" ∧ y.cls ≠ "java/lang/invoke/VarHandle") : (Cond.selects y.cls y y).before args' s = true := by
  obtain ⟨c, k, h1, h2, -, h4, -⟩ := Cond.instantiable_spec wi
  exact selects_self_of_private h1 h2 (by simp only [Bool.or_eq_false_iff] at h4; exact h4.1) hpriv hinst hy
theorem own_mvMN {Z : State} {a0 args' : Array Value} {own host : String} {y : MethodName} {index : Nat} (hZ : Z.Warmed39 s.vm) (w : (Cond.methodLinkNest own index y host).before a0 Z = true) : (Cond.methodLinkNest own index y host).before args' s = true := (Cond.methodLinkNest_wide hZ w :)
theorem own_nar01 {z : Int32} (h : z = 0 ∨ z = 1) : nar .boolean z = z := by rcases h with rfl | rfl <;> decide
end OwnGo
end Jvm.RoadKit
namespace Jvm.Pilot.@@N@@
open Jvm Jvm.ClassFile Sem Op Lib Jvm.Free Jvm.Stand Jvm.LawKit Jvm.RoadKit Bundle Jvm.Pilot.@@N@@.Jvm.D
def own_val (n : Nat) : Int32 := match n with | 0 => (-2147483648) | 1 => (5000) | 2 => (10000) | 3 => (20000) | 4 => (30000) | 5 => (40000) | 6 => (50000) | _ => 2147483647
def own_lv (x0 x1 x2 x3 x4 x5 x6 x7 : Addr) (n : Nat) : Addr := match n with | 0 => x0 | 1 => x1 | 2 => x2 | 3 => x3 | 4 => x4 | 5 => x5 | 6 => x6 | _ => x7
theorem own_mono : ∀ i j : Fin 8, (own_val i.1 < own_val j.1) ↔ i.1 < j.1 := by decide
theorem own_tl {a b : Int32} (ha : 0 ≤ a.toInt ∧ a.toInt < 8) (hb : 0 ≤ b.toInt ∧ b.toInt < 8) : (own_val a.toNatClampNeg < own_val b.toNatClampNeg) ↔ a < b := by
  have e1 : a.toNatClampNeg < 8 := by simp only [Int32.toNatClampNeg]; omega
  have e2 : b.toNatClampNeg < 8 := by simp only [Int32.toNatClampNeg]; omega
  rw [own_mono ⟨_, e1⟩ ⟨_, e2⟩, Int32.lt_iff_toInt_lt]; simp only [Int32.toNatClampNeg]; omega
theorem own_ne7 {b : Int32} (hb : 0 ≤ b.toInt ∧ b.toInt < 8) (h : ¬ (b = 7)) : own_val b.toNatClampNeg ≠ own_val 7 := by
  have e2 : b.toNatClampNeg < 8 := by simp only [Int32.toNatClampNeg]; omega
  have e3 : b.toNatClampNeg ≠ 7 := by rw [← Int32.toInt_inj, show (7 : Int32).toInt = 7 from rfl] at h; simp only [Int32.toNatClampNeg]; omega
  have m1 : own_val b.toNatClampNeg < own_val 7 := (own_mono ⟨b.toNatClampNeg, e2⟩ ⟨7, by decide⟩).mpr (show b.toNatClampNeg < 7 by omega)
  intro q
  rw [q, Int32.lt_iff_toInt_lt] at m1; omega
theorem d1_0 : decode method_2_code 0 = .ok (.iload_n 0, 1) := by decide +kernel
theorem d1_1 : decode method_2_code 1 = .ok (.ifCond .ne 7, 3) := by decide +kernel
theorem d1_4 : decode method_2_code 4 = .ok (.getstatic 7, 3) := by decide +kernel
theorem d1_7 : decode method_2_code 7 = .ok (.areturn, 1) := by decide +kernel
theorem d1_8 : decode method_2_code 8 = .ok (.iload_n 0, 1) := by decide +kernel
theorem d1_9 : decode method_2_code 9 = .ok (.iconst 1, 1) := by decide +kernel
theorem d1_10 : decode method_2_code 10 = .ok (.if_icmp .ne 7, 3) := by decide +kernel
theorem d1_13 : decode method_2_code 13 = .ok (.getstatic 13, 3) := by decide +kernel
theorem d1_16 : decode method_2_code 16 = .ok (.areturn, 1) := by decide +kernel
theorem d1_17 : decode method_2_code 17 = .ok (.iload_n 0, 1) := by decide +kernel
theorem d1_18 : decode method_2_code 18 = .ok (.iconst 2, 1) := by decide +kernel
theorem d1_19 : decode method_2_code 19 = .ok (.if_icmp .ne 7, 3) := by decide +kernel
theorem d1_22 : decode method_2_code 22 = .ok (.getstatic 16, 3) := by decide +kernel
theorem d1_25 : decode method_2_code 25 = .ok (.areturn, 1) := by decide +kernel
theorem d1_26 : decode method_2_code 26 = .ok (.iload_n 0, 1) := by decide +kernel
theorem d1_27 : decode method_2_code 27 = .ok (.iconst 3, 1) := by decide +kernel
theorem d1_28 : decode method_2_code 28 = .ok (.if_icmp .ne 7, 3) := by decide +kernel
theorem d1_31 : decode method_2_code 31 = .ok (.getstatic 19, 3) := by decide +kernel
theorem d1_34 : decode method_2_code 34 = .ok (.areturn, 1) := by decide +kernel
theorem d1_35 : decode method_2_code 35 = .ok (.iload_n 0, 1) := by decide +kernel
theorem d1_36 : decode method_2_code 36 = .ok (.iconst 4, 1) := by decide +kernel
theorem d1_37 : decode method_2_code 37 = .ok (.if_icmp .ne 7, 3) := by decide +kernel
theorem d1_40 : decode method_2_code 40 = .ok (.getstatic 22, 3) := by decide +kernel
theorem d1_43 : decode method_2_code 43 = .ok (.areturn, 1) := by decide +kernel
theorem d1_44 : decode method_2_code 44 = .ok (.iload_n 0, 1) := by decide +kernel
theorem d1_45 : decode method_2_code 45 = .ok (.iconst 5, 1) := by decide +kernel
theorem d1_46 : decode method_2_code 46 = .ok (.if_icmp .ne 7, 3) := by decide +kernel
theorem d1_49 : decode method_2_code 49 = .ok (.getstatic 25, 3) := by decide +kernel
theorem d1_52 : decode method_2_code 52 = .ok (.areturn, 1) := by decide +kernel
theorem d1_53 : decode method_2_code 53 = .ok (.iload_n 0, 1) := by decide +kernel
theorem d1_54 : decode method_2_code 54 = .ok (.bipush 6, 2) := by decide +kernel
theorem d1_56 : decode method_2_code 56 = .ok (.if_icmp .ne 7, 3) := by decide +kernel
theorem d1_59 : decode method_2_code 59 = .ok (.getstatic 28, 3) := by decide +kernel
theorem d1_62 : decode method_2_code 62 = .ok (.areturn, 1) := by decide +kernel
theorem d1_63 : decode method_2_code 63 = .ok (.getstatic 31, 3) := by decide +kernel
theorem d1_66 : decode method_2_code 66 = .ok (.areturn, 1) := by decide +kernel
theorem pn_com_example_hearthlog_hearthlog_LevelReachesPinLaw : plainName "com/example/hearthlog/hearthlog/LevelReachesPinLaw" = true := by first | (simp [plainName, overriddenIn]; done) | decide +kernel
theorem ef_rmPi (m : MethodId) (kk : Int32) : entryFrame m #[(.int kk)] 1 = mkF m 0 #[.val (.int kk)] [] := by first | (simp [entryFrame, mkF, argsToLocals, Value.category]; done) | rfl
def Q_rmPi (Z : State) (kk : Int32) (lv : Nat → Addr) (h0 : Heap) (n0 : Nat) (v : Option Value) (h : Heap) (L : List Loc) : Prop := (v = some (.ref (lv kk.toNatClampNeg))) ∧ (Fr n0 L) ∧ (h = h0)
set_option maxRecDepth 65536 in
set_option maxHeartbeats 40000000 in
theorem rmPi (l : Launch) (Z : State) (a0 : Array Value) (hw : ∀ d ∈ tables_1, d.before a0 Z = true) (ws : List Jvm.Cond) (kk : Int32) (lv : Nat → Addr) (h0 : Heap) (n0 : Nat) (Z0 : n0 ≤ h0.size) (S0 : Sta Z h0 "com/example/hearthlog/hearthlog/Level" "ALL" "Lcom/example/hearthlog/hearthlog/Level;" (.ref (lv 0))) (S1 : Sta Z h0 "com/example/hearthlog/hearthlog/Level" "TRACE" "Lcom/example/hearthlog/hearthlog/Level;" (.ref (lv 1))) (S2 : Sta Z h0 "com/example/hearthlog/hearthlog/Level" "DEBUG" "Lcom/example/hearthlog/hearthlog/Level;" (.ref (lv 2))) (S3 : Sta Z h0 "com/example/hearthlog/hearthlog/Level" "INFO" "Lcom/example/hearthlog/hearthlog/Level;" (.ref (lv 3))) (S4 : Sta Z h0 "com/example/hearthlog/hearthlog/Level" "WARN" "Lcom/example/hearthlog/hearthlog/Level;" (.ref (lv 4))) (S5 : Sta Z h0 "com/example/hearthlog/hearthlog/Level" "ERROR" "Lcom/example/hearthlog/hearthlog/Level;" (.ref (lv 5))) (S6 : Sta Z h0 "com/example/hearthlog/hearthlog/Level" "FATAL" "Lcom/example/hearthlog/hearthlog/Level;" (.ref (lv 6))) (S7 : Sta Z h0 "com/example/hearthlog/hearthlog/Level" "OFF" "Lcom/example/hearthlog/hearthlog/Level;" (.ref (lv 7))) (hk : 0 ≤ kk.toInt ∧ kk.toInt < 8) :
    MetFree l (⟨"com/example/hearthlog/hearthlog/LevelReachesPinLaw", "pick", "(I)Lcom/example/hearthlog/hearthlog/Level;"⟩ : MethodName) (head1 (Jvm.Cond.code (⟨"com/example/hearthlog/hearthlog/LevelReachesPinLaw", "pick", "(I)Lcom/example/hearthlog/hearthlog/Level;"⟩ : MethodName) method_2_code 1 (some (.object "com/example/hearthlog/hearthlog/Level")) :: ws) ({ frames := 0, cells := 0, slots := 0, locals := 0 } : Room)) (fun aA U => aA = #[(.int kk)] ∧ Z.Warmed39 U.vm ∧ U.heap = h0) (fun _ _ _ _ _ => True) (fun _ U o U' => ∃ v L, o = .returned v ∧ Q_rmPi Z kk lv h0 n0 v U'.heap L ∧ FrameEnd U o U' L ({ frames := 0, cells := 0, slots := 0, locals := 0 } : Room).cells ({ frames := 0, cells := 0, slots := 0, locals := 0 } : Room).slots) := by
  refine MetFree.of_bodySF (plainFor_of_name pn_com_example_hearthlog_hearthlog_LevelReachesPinLaw) hisR ?_
  intro p e s m args below meth c s₁ Bd hml0 hP hK
  obtain ⟨rfl, hZ, hh⟩ := hP
  have hx := Bd.exec
  have hby := Bd.bytes
  have hml : c.maxLocals = 1 := hml0
  have hown : s.vm.findClass "com/example/hearthlog/hearthlog/LevelReachesPinLaw" = some m.cls := findClass_of_methodNamed Bd.named
  have hnm := (name_of_methodNamed Bd.named Bd.method).1
  have hret := Bd.returns
  have hlk : meth.locks = false := BodyLoose.notSynchronized Bd
  have X0 : Stand p l e ({ frames := 0, cells := 0, slots := 0, locals := 0 } : Room) s m #[(.int kk)] below meth c s₁ [] 0 0 := Stand.of_body Bd
  have e0 : s₁.heap = h0 := by rw [← hh, Bd.state]; rfl
  have N0 := Fr.nil n0
  suffices hgo : Go p e below s ({ frames := 0, cells := 0, slots := 0, locals := 0 } : Room).cells ({ frames := 0, cells := 0, slots := 0, locals := 0 } : Room).slots (Q_rmPi Z kk lv h0 n0) s₁ (mkF m 0 #[.val (.int kk)] []) from hgo.enter (ef_rmPi m kk)
  refine Go.step (fun _ k => XS.iloadN X0.here hx rfl (hb hby d1_0) rfl k) ?_
  show Go _ _ _ _ _ _ _ s₁ (mkF m 1 #[.val (.int kk)] [(.int kk)])
  by_cases hc1_1 : kk = (0 : Int32)
  · refine Go.step (fun _ k => XS.ifNo X0.here hx rfl (hb hby d1_1) rfl ((if0 _ _).trans (teq hc1_1).2) k) ?_
    show Go _ _ _ _ _ _ _ s₁ (mkF m 4 #[.val (.int kk)] [])
    obtain ⟨T2, X2, e2, st2⟩ := getS2 X0 hx hZ hown (host := "") (Or.inl (hw _ (List.mem_of_getElem? (i := 4) rfl))) Via.refl e0 S0 (g := (mkF m 4 #[.val (.int kk)] [])) rfl (hb hby d1_4)
    refine Go.step st2 ?_
    show Go _ _ _ _ _ _ _ T2 (mkF m 7 #[.val (.int kk)] [(.ref (lv 0))])
    exact Go.retA X2 hx hret hlk rfl rfl (hb hby d1_7) e2 (by decide) (by decide) ⟨(congrArg (fun z => some (Value.ref (lv z))) (by rw [hc1_1]; rfl)), N0, rfl⟩
  · refine Go.step (fun _ k => XS.ifYes X0.here hx rfl (pc0 := 1) (pc' := 8) rfl (hb hby d1_1) rfl ((if0 _ _).trans (feq hc1_1).2) (by decide) (by decide) k) ?_
    show Go _ _ _ _ _ _ _ s₁ (mkF m 8 #[.val (.int kk)] [])
    refine Go.step (fun _ k => XS.iloadN X0.here hx rfl (hb hby d1_8) rfl k) ?_
    show Go _ _ _ _ _ _ _ s₁ (mkF m 9 #[.val (.int kk)] [(.int kk)])
    refine Go.step (fun _ k => XS.iconst X0.here hx rfl (hb hby d1_9) k) ?_
    show Go _ _ _ _ _ _ _ s₁ (mkF m 10 #[.val (.int kk)] [(.int (1 : Int32)), (.int kk)])
    by_cases hc10_3 : kk = (1 : Int32)
    · refine Go.step (fun _ k => XS.icmpNo X0.here hx rfl (hb hby d1_10) rfl (teq hc10_3).2 k) ?_
      show Go _ _ _ _ _ _ _ s₁ (mkF m 13 #[.val (.int kk)] [])
      obtain ⟨T4, X4, e4, st4⟩ := getS2 X0 hx hZ hown (host := "") (Or.inl (hw _ (List.mem_of_getElem? (i := 20) rfl))) Via.refl e0 S1 (g := (mkF m 13 #[.val (.int kk)] [])) rfl (hb hby d1_13)
      refine Go.step st4 ?_
      show Go _ _ _ _ _ _ _ T4 (mkF m 16 #[.val (.int kk)] [(.ref (lv 1))])
      exact Go.retA X4 hx hret hlk rfl rfl (hb hby d1_16) e4 (by decide) (by decide) ⟨(congrArg (fun z => some (Value.ref (lv z))) (by rw [hc10_3]; rfl)), N0, rfl⟩
    · refine Go.step (fun _ k => XS.icmpYes X0.here hx rfl (pc0 := 10) (pc' := 17) rfl (hb hby d1_10) rfl (feq hc10_3).2 (by decide) (by decide) k) ?_
      show Go _ _ _ _ _ _ _ s₁ (mkF m 17 #[.val (.int kk)] [])
      refine Go.step (fun _ k => XS.iloadN X0.here hx rfl (hb hby d1_17) rfl k) ?_
      show Go _ _ _ _ _ _ _ s₁ (mkF m 18 #[.val (.int kk)] [(.int kk)])
      refine Go.step (fun _ k => XS.iconst X0.here hx rfl (hb hby d1_18) k) ?_
      show Go _ _ _ _ _ _ _ s₁ (mkF m 19 #[.val (.int kk)] [(.int (2 : Int32)), (.int kk)])
      by_cases hc19_5 : kk = (2 : Int32)
      · refine Go.step (fun _ k => XS.icmpNo X0.here hx rfl (hb hby d1_19) rfl (teq hc19_5).2 k) ?_
        show Go _ _ _ _ _ _ _ s₁ (mkF m 22 #[.val (.int kk)] [])
        obtain ⟨T6, X6, e6, st6⟩ := getS2 X0 hx hZ hown (host := "") (Or.inl (hw _ (List.mem_of_getElem? (i := 27) rfl))) Via.refl e0 S2 (g := (mkF m 22 #[.val (.int kk)] [])) rfl (hb hby d1_22)
        refine Go.step st6 ?_
        show Go _ _ _ _ _ _ _ T6 (mkF m 25 #[.val (.int kk)] [(.ref (lv 2))])
        exact Go.retA X6 hx hret hlk rfl rfl (hb hby d1_25) e6 (by decide) (by decide) ⟨(congrArg (fun z => some (Value.ref (lv z))) (by rw [hc19_5]; rfl)), N0, rfl⟩
      · refine Go.step (fun _ k => XS.icmpYes X0.here hx rfl (pc0 := 19) (pc' := 26) rfl (hb hby d1_19) rfl (feq hc19_5).2 (by decide) (by decide) k) ?_
        show Go _ _ _ _ _ _ _ s₁ (mkF m 26 #[.val (.int kk)] [])
        refine Go.step (fun _ k => XS.iloadN X0.here hx rfl (hb hby d1_26) rfl k) ?_
        show Go _ _ _ _ _ _ _ s₁ (mkF m 27 #[.val (.int kk)] [(.int kk)])
        refine Go.step (fun _ k => XS.iconst X0.here hx rfl (hb hby d1_27) k) ?_
        show Go _ _ _ _ _ _ _ s₁ (mkF m 28 #[.val (.int kk)] [(.int (3 : Int32)), (.int kk)])
        by_cases hc28_7 : kk = (3 : Int32)
        · refine Go.step (fun _ k => XS.icmpNo X0.here hx rfl (hb hby d1_28) rfl (teq hc28_7).2 k) ?_
          show Go _ _ _ _ _ _ _ s₁ (mkF m 31 #[.val (.int kk)] [])
          obtain ⟨T8, X8, e8, st8⟩ := getS2 X0 hx hZ hown (host := "") (Or.inl (hw _ (List.mem_of_getElem? (i := 7) rfl))) Via.refl e0 S3 (g := (mkF m 31 #[.val (.int kk)] [])) rfl (hb hby d1_31)
          refine Go.step st8 ?_
          show Go _ _ _ _ _ _ _ T8 (mkF m 34 #[.val (.int kk)] [(.ref (lv 3))])
          exact Go.retA X8 hx hret hlk rfl rfl (hb hby d1_34) e8 (by decide) (by decide) ⟨(congrArg (fun z => some (Value.ref (lv z))) (by rw [hc28_7]; rfl)), N0, rfl⟩
        · refine Go.step (fun _ k => XS.icmpYes X0.here hx rfl (pc0 := 28) (pc' := 35) rfl (hb hby d1_28) rfl (feq hc28_7).2 (by decide) (by decide) k) ?_
          show Go _ _ _ _ _ _ _ s₁ (mkF m 35 #[.val (.int kk)] [])
          refine Go.step (fun _ k => XS.iloadN X0.here hx rfl (hb hby d1_35) rfl k) ?_
          show Go _ _ _ _ _ _ _ s₁ (mkF m 36 #[.val (.int kk)] [(.int kk)])
          refine Go.step (fun _ k => XS.iconst X0.here hx rfl (hb hby d1_36) k) ?_
          show Go _ _ _ _ _ _ _ s₁ (mkF m 37 #[.val (.int kk)] [(.int (4 : Int32)), (.int kk)])
          by_cases hc37_9 : kk = (4 : Int32)
          · refine Go.step (fun _ k => XS.icmpNo X0.here hx rfl (hb hby d1_37) rfl (teq hc37_9).2 k) ?_
            show Go _ _ _ _ _ _ _ s₁ (mkF m 40 #[.val (.int kk)] [])
            obtain ⟨T10, X10, e10, st10⟩ := getS2 X0 hx hZ hown (host := "") (Or.inl (hw _ (List.mem_of_getElem? (i := 22) rfl))) Via.refl e0 S4 (g := (mkF m 40 #[.val (.int kk)] [])) rfl (hb hby d1_40)
            refine Go.step st10 ?_
            show Go _ _ _ _ _ _ _ T10 (mkF m 43 #[.val (.int kk)] [(.ref (lv 4))])
            exact Go.retA X10 hx hret hlk rfl rfl (hb hby d1_43) e10 (by decide) (by decide) ⟨(congrArg (fun z => some (Value.ref (lv z))) (by rw [hc37_9]; rfl)), N0, rfl⟩
          · refine Go.step (fun _ k => XS.icmpYes X0.here hx rfl (pc0 := 37) (pc' := 44) rfl (hb hby d1_37) rfl (feq hc37_9).2 (by decide) (by decide) k) ?_
            show Go _ _ _ _ _ _ _ s₁ (mkF m 44 #[.val (.int kk)] [])
            refine Go.step (fun _ k => XS.iloadN X0.here hx rfl (hb hby d1_44) rfl k) ?_
            show Go _ _ _ _ _ _ _ s₁ (mkF m 45 #[.val (.int kk)] [(.int kk)])
            refine Go.step (fun _ k => XS.iconst X0.here hx rfl (hb hby d1_45) k) ?_
            show Go _ _ _ _ _ _ _ s₁ (mkF m 46 #[.val (.int kk)] [(.int (5 : Int32)), (.int kk)])
            by_cases hc46_11 : kk = (5 : Int32)
            · refine Go.step (fun _ k => XS.icmpNo X0.here hx rfl (hb hby d1_46) rfl (teq hc46_11).2 k) ?_
              show Go _ _ _ _ _ _ _ s₁ (mkF m 49 #[.val (.int kk)] [])
              obtain ⟨T12, X12, e12, st12⟩ := getS2 X0 hx hZ hown (host := "") (Or.inl (hw _ (List.mem_of_getElem? (i := 24) rfl))) Via.refl e0 S5 (g := (mkF m 49 #[.val (.int kk)] [])) rfl (hb hby d1_49)
              refine Go.step st12 ?_
              show Go _ _ _ _ _ _ _ T12 (mkF m 52 #[.val (.int kk)] [(.ref (lv 5))])
              exact Go.retA X12 hx hret hlk rfl rfl (hb hby d1_52) e12 (by decide) (by decide) ⟨(congrArg (fun z => some (Value.ref (lv z))) (by rw [hc46_11]; rfl)), N0, rfl⟩
            · refine Go.step (fun _ k => XS.icmpYes X0.here hx rfl (pc0 := 46) (pc' := 53) rfl (hb hby d1_46) rfl (feq hc46_11).2 (by decide) (by decide) k) ?_
              show Go _ _ _ _ _ _ _ s₁ (mkF m 53 #[.val (.int kk)] [])
              refine Go.step (fun _ k => XS.iloadN X0.here hx rfl (hb hby d1_53) rfl k) ?_
              show Go _ _ _ _ _ _ _ s₁ (mkF m 54 #[.val (.int kk)] [(.int kk)])
              refine Go.step (fun _ k => XS.bipush X0.here hx rfl (hb hby d1_54) k) ?_
              show Go _ _ _ _ _ _ _ s₁ (mkF m 56 #[.val (.int kk)] [(.int (6 : Int32)), (.int kk)])
              by_cases hc56_13 : kk = (6 : Int32)
              · refine Go.step (fun _ k => XS.icmpNo X0.here hx rfl (hb hby d1_56) rfl (teq hc56_13).2 k) ?_
                show Go _ _ _ _ _ _ _ s₁ (mkF m 59 #[.val (.int kk)] [])
                obtain ⟨T14, X14, e14, st14⟩ := getS2 X0 hx hZ hown (host := "") (Or.inl (hw _ (List.mem_of_getElem? (i := 18) rfl))) Via.refl e0 S6 (g := (mkF m 59 #[.val (.int kk)] [])) rfl (hb hby d1_59)
                refine Go.step st14 ?_
                show Go _ _ _ _ _ _ _ T14 (mkF m 62 #[.val (.int kk)] [(.ref (lv 6))])
                exact Go.retA X14 hx hret hlk rfl rfl (hb hby d1_62) e14 (by decide) (by decide) ⟨(congrArg (fun z => some (Value.ref (lv z))) (by rw [hc56_13]; rfl)), N0, rfl⟩
              · refine Go.step (fun _ k => XS.icmpYes X0.here hx rfl (pc0 := 56) (pc' := 63) rfl (hb hby d1_56) rfl (feq hc56_13).2 (by decide) (by decide) k) ?_
                show Go _ _ _ _ _ _ _ s₁ (mkF m 63 #[.val (.int kk)] [])
                obtain ⟨T15, X15, e15, st15⟩ := getS2 X0 hx hZ hown (host := "") (Or.inl (hw _ (List.mem_of_getElem? (i := 26) rfl))) Via.refl e0 S7 (g := (mkF m 63 #[.val (.int kk)] [])) rfl (hb hby d1_63)
                refine Go.step st15 ?_
                show Go _ _ _ _ _ _ _ T15 (mkF m 66 #[.val (.int kk)] [(.ref (lv 7))])
                exact Go.retA X15 hx hret hlk rfl rfl (hb hby d1_66) e15 (by decide) (by decide) ⟨(congrArg (fun z => some (Value.ref (lv z))) (by have := rng32 kk; have : (0 : Int32).toInt = 0 := rfl; have : (1 : Int32).toInt = 1 := rfl; have : (2 : Int32).toInt = 2 := rfl; have : (3 : Int32).toInt = 3 := rfl; have : (4 : Int32).toInt = 4 := rfl; have : (5 : Int32).toInt = 5 := rfl; have : (6 : Int32).toInt = 6 := rfl; simp only [Int32.lt_iff_toInt_lt, Int32.le_iff_toInt_le, ← Int32.toInt_inj, Int64.lt_iff_toInt_lt, Int64.le_iff_toInt_le, ← Int64.toInt_inj] at hc1_1 hc10_3 hc19_5 hc28_7 hc37_9 hc46_11 hc56_13; simp only [Int32.toNatClampNeg]; omega)), N0, rfl⟩
theorem d2_0 : decode prog_25_method_6_code 0 = .ok (.aload_n 1, 1) := by decide +kernel
theorem d2_1 : decode prog_25_method_6_code 1 = .ok (.getstatic 25, 3) := by decide +kernel
theorem d2_4 : decode prog_25_method_6_code 4 = .ok (.if_acmp .eq 18, 3) := by decide +kernel
theorem d2_7 : decode prog_25_method_6_code 7 = .ok (.aload_n 0, 1) := by decide +kernel
theorem d2_8 : decode prog_25_method_6_code 8 = .ok (.getfield 47, 3) := by decide +kernel
theorem d2_11 : decode prog_25_method_6_code 11 = .ok (.aload_n 1, 1) := by decide +kernel
theorem d2_12 : decode prog_25_method_6_code 12 = .ok (.getfield 47, 3) := by decide +kernel
theorem d2_15 : decode prog_25_method_6_code 15 = .ok (.if_icmp .lt 7, 3) := by decide +kernel
theorem d2_18 : decode prog_25_method_6_code 18 = .ok (.iconst 1, 1) := by decide +kernel
theorem d2_19 : decode prog_25_method_6_code 19 = .ok (.goto 4, 3) := by decide +kernel
theorem d2_22 : decode prog_25_method_6_code 22 = .ok (.iconst 0, 1) := by decide +kernel
theorem d2_23 : decode prog_25_method_6_code 23 = .ok (.ireturn, 1) := by decide +kernel
theorem pn_com_example_hearthlog_hearthlog_Level : plainName "com/example/hearthlog/hearthlog/Level" = true := by first | (simp [plainName, overriddenIn]; done) | decide +kernel
theorem ef_rmRa (m : MethodId) (ao : Addr) (al : Addr) : entryFrame m #[(.ref ao), (.ref al)] 2 = mkF m 0 #[.val (.ref ao), .val (.ref al)] [] := by first | (simp [entryFrame, mkF, argsToLocals, Value.category]; done) | rfl
def Q_rmRa (Z : State) (ao : Addr) (al : Addr) (h0 : Heap) (n0 : Nat) (v : Option Value) (h : Heap) (L : List Loc) : Prop := (v = some (.int (0 : Int32))) ∧ (Fr n0 L) ∧ (h = h0)
set_option maxRecDepth 65536 in
set_option maxHeartbeats 40000000 in
theorem rmRa (l : Launch) (Z : State) (a0 : Array Value) (hw : ∀ d ∈ tables_1, d.before a0 Z = true) (ws : List Jvm.Cond) (ao : Addr) (al : Addr) (h0 : Heap) (n0 : Nat) (Z0 : n0 ≤ h0.size) (S7 : Sta Z h0 "com/example/hearthlog/hearthlog/Level" "OFF" "Lcom/example/hearthlog/hearthlog/Level;" (.ref al)) :
    MetFree l (⟨"com/example/hearthlog/hearthlog/Level", "reaches", "(Lcom/example/hearthlog/hearthlog/Level;)Z"⟩ : MethodName) (head1 (Jvm.Cond.code (⟨"com/example/hearthlog/hearthlog/Level", "reaches", "(Lcom/example/hearthlog/hearthlog/Level;)Z"⟩ : MethodName) prog_25_method_6_code 2 (some .boolean) :: ws) ({ frames := 0, cells := 0, slots := 0, locals := 0 } : Room)) (fun aA U => aA = #[(.ref ao), (.ref al)] ∧ Z.Warmed39 U.vm ∧ U.heap = h0) (fun _ _ _ _ _ => True) (fun _ U o U' => ∃ v L, o = .returned v ∧ Q_rmRa Z ao al h0 n0 v U'.heap L ∧ FrameEnd U o U' L ({ frames := 0, cells := 0, slots := 0, locals := 0 } : Room).cells ({ frames := 0, cells := 0, slots := 0, locals := 0 } : Room).slots) := by
  refine MetFree.of_bodySF (plainFor_of_name pn_com_example_hearthlog_hearthlog_Level) hisR ?_
  intro p e s m args below meth c s₁ Bd hml0 hP hK
  obtain ⟨rfl, hZ, hh⟩ := hP
  have hx := Bd.exec
  have hby := Bd.bytes
  have hml : c.maxLocals = 2 := hml0
  have hown : s.vm.findClass "com/example/hearthlog/hearthlog/Level" = some m.cls := findClass_of_methodNamed Bd.named
  have hnm := (name_of_methodNamed Bd.named Bd.method).1
  have hret := Bd.returns
  have hlk : meth.locks = false := BodyLoose.notSynchronized Bd
  have X0 : Stand p l e ({ frames := 0, cells := 0, slots := 0, locals := 0 } : Room) s m #[(.ref ao), (.ref al)] below meth c s₁ [] 0 0 := Stand.of_body Bd
  have e0 : s₁.heap = h0 := by rw [← hh, Bd.state]; rfl
  have N0 := Fr.nil n0
  suffices hgo : Go p e below s ({ frames := 0, cells := 0, slots := 0, locals := 0 } : Room).cells ({ frames := 0, cells := 0, slots := 0, locals := 0 } : Room).slots (Q_rmRa Z ao al h0 n0) s₁ (mkF m 0 #[.val (.ref ao), .val (.ref al)] []) from hgo.enter (ef_rmRa m ao al)
  refine Go.step (fun _ k => XS.aloadN X0.here hx rfl (hb hby d2_0) rfl rfl k) ?_
  show Go _ _ _ _ _ _ _ s₁ (mkF m 1 #[.val (.ref ao), .val (.ref al)] [(.ref al)])
  obtain ⟨T16, X16, e16, st16⟩ := getS2 X0 hx hZ hown (host := "") (Or.inl (hw _ (List.mem_of_getElem? (i := 14) rfl))) Via.refl e0 S7 (g := (mkF m 1 #[.val (.ref ao), .val (.ref al)] [(.ref al)])) rfl (hb hby d2_1)
  refine Go.step st16 ?_
  show Go _ _ _ _ _ _ _ T16 (mkF m 4 #[.val (.ref ao), .val (.ref al)] [(.ref al), (.ref al)])
  refine Go.step (fun _ k => Jvm.RoadKit.acmp (g := (mkF m 4 #[.val (.ref ao), .val (.ref al)] [(.ref al), (.ref al)])) X16 hx rfl rfl rfl (pc0 := 4) (pc' := 22) (same := true) rfl (hb hby d2_4) rfl (decide_eq_true rfl) (by decide) (by decide) k) ?_
  show Go _ _ _ _ _ _ _ T16 (mkF m 22 #[.val (.ref ao), .val (.ref al)] [])
  refine Go.step (fun _ k => XS.iconst X16.here hx rfl (hb hby d2_22) k) ?_
  show Go _ _ _ _ _ _ _ T16 (mkF m 23 #[.val (.ref ao), .val (.ref al)] [(.int (0 : Int32))])
  exact Go.retN X16 hx (t := .boolean) hret hlk (by simp) (hb hby d2_23) e16 (by decide) (by decide) ⟨rfl, N0, rfl⟩
theorem ef_rmRb (m : MethodId) (ao : Addr) (al : Addr) : entryFrame m #[(.ref ao), (.ref al)] 2 = mkF m 0 #[.val (.ref ao), .val (.ref al)] [] := by first | (simp [entryFrame, mkF, argsToLocals, Value.category]; done) | rfl
def Q_rmRb (Z : State) (ao : Addr) (al : Addr) (v1 : Int32) (v2 : Int32) (af : Addr) (h0 : Heap) (n0 : Nat) (v : Option Value) (h : Heap) (L : List Loc) : Prop := (v = some (.int (if v1 < v2 then (0 : Int32) else 1))) ∧ (Fr n0 L) ∧ (h = h0)
set_option maxRecDepth 65536 in
set_option maxHeartbeats 40000000 in
theorem rmRb (l : Launch) (Z : State) (a0 : Array Value) (hw : ∀ d ∈ tables_1, d.before a0 Z = true) (ws : List Jvm.Cond) (ao : Addr) (al : Addr) (v1 : Int32) (v2 : Int32) (af : Addr) (h0 : Heap) (n0 : Nat) (Z0 : n0 ≤ h0.size) (S7 : Sta Z h0 "com/example/hearthlog/hearthlog/Level" "OFF" "Lcom/example/hearthlog/hearthlog/Level;" (.ref af)) (F1 : Fld Z h0 ao "com/example/hearthlog/hearthlog/Level" "value" "I" (.int v1)) (F2 : Fld Z h0 al "com/example/hearthlog/hearthlog/Level" "value" "I" (.int v2)) (ne : al ≠ af) :
    MetFree l (⟨"com/example/hearthlog/hearthlog/Level", "reaches", "(Lcom/example/hearthlog/hearthlog/Level;)Z"⟩ : MethodName) (head1 (Jvm.Cond.code (⟨"com/example/hearthlog/hearthlog/Level", "reaches", "(Lcom/example/hearthlog/hearthlog/Level;)Z"⟩ : MethodName) prog_25_method_6_code 2 (some .boolean) :: ws) ({ frames := 0, cells := 0, slots := 0, locals := 0 } : Room)) (fun aA U => aA = #[(.ref ao), (.ref al)] ∧ Z.Warmed39 U.vm ∧ U.heap = h0) (fun _ _ _ _ _ => True) (fun _ U o U' => ∃ v L, o = .returned v ∧ Q_rmRb Z ao al v1 v2 af h0 n0 v U'.heap L ∧ FrameEnd U o U' L ({ frames := 0, cells := 0, slots := 0, locals := 0 } : Room).cells ({ frames := 0, cells := 0, slots := 0, locals := 0 } : Room).slots) := by
  refine MetFree.of_bodySF (plainFor_of_name pn_com_example_hearthlog_hearthlog_Level) hisR ?_
  intro p e s m args below meth c s₁ Bd hml0 hP hK
  obtain ⟨rfl, hZ, hh⟩ := hP
  have hx := Bd.exec
  have hby := Bd.bytes
  have hml : c.maxLocals = 2 := hml0
  have hown : s.vm.findClass "com/example/hearthlog/hearthlog/Level" = some m.cls := findClass_of_methodNamed Bd.named
  have hnm := (name_of_methodNamed Bd.named Bd.method).1
  have hret := Bd.returns
  have hlk : meth.locks = false := BodyLoose.notSynchronized Bd
  have X0 : Stand p l e ({ frames := 0, cells := 0, slots := 0, locals := 0 } : Room) s m #[(.ref ao), (.ref al)] below meth c s₁ [] 0 0 := Stand.of_body Bd
  have e0 : s₁.heap = h0 := by rw [← hh, Bd.state]; rfl
  have N0 := Fr.nil n0
  suffices hgo : Go p e below s ({ frames := 0, cells := 0, slots := 0, locals := 0 } : Room).cells ({ frames := 0, cells := 0, slots := 0, locals := 0 } : Room).slots (Q_rmRb Z ao al v1 v2 af h0 n0) s₁ (mkF m 0 #[.val (.ref ao), .val (.ref al)] []) from hgo.enter (ef_rmRb m ao al)
  refine Go.step (fun _ k => XS.aloadN X0.here hx rfl (hb hby d2_0) rfl rfl k) ?_
  show Go _ _ _ _ _ _ _ s₁ (mkF m 1 #[.val (.ref ao), .val (.ref al)] [(.ref al)])
  obtain ⟨T17, X17, e17, st17⟩ := getS2 X0 hx hZ hown (host := "") (Or.inl (hw _ (List.mem_of_getElem? (i := 14) rfl))) Via.refl e0 S7 (g := (mkF m 1 #[.val (.ref ao), .val (.ref al)] [(.ref al)])) rfl (hb hby d2_1)
  refine Go.step st17 ?_
  show Go _ _ _ _ _ _ _ T17 (mkF m 4 #[.val (.ref ao), .val (.ref al)] [(.ref af), (.ref al)])
  refine Go.step (fun _ k => Jvm.RoadKit.acmp (g := (mkF m 4 #[.val (.ref ao), .val (.ref al)] [(.ref af), (.ref al)])) X17 hx rfl rfl rfl (pc0 := 4) (pc' := 7) (same := false) rfl (hb hby d2_4) rfl (decide_eq_false fun q => ne (Value.ref.inj q)) (by decide) (by decide) k) ?_
  show Go _ _ _ _ _ _ _ T17 (mkF m 7 #[.val (.ref ao), .val (.ref al)] [])
  refine Go.step (fun _ k => XS.aloadN X17.here hx rfl (hb hby d2_7) rfl rfl k) ?_
  show Go _ _ _ _ _ _ _ T17 (mkF m 8 #[.val (.ref ao), .val (.ref al)] [(.ref ao)])
  obtain ⟨T18, X18, e18, st18⟩ := getF X17 hx hZ hown (host := "") (Or.inl (hw _ (List.mem_of_getElem? (i := 16) rfl))) Via.refl e17 F1 (g := (mkF m 8 #[.val (.ref ao), .val (.ref al)] [(.ref ao)])) rfl rfl (hb hby d2_8)
  refine Go.step st18 ?_
  show Go _ _ _ _ _ _ _ T18 (mkF m 11 #[.val (.ref ao), .val (.ref al)] [(.int v1)])
  refine Go.step (fun _ k => XS.aloadN X18.here hx rfl (hb hby d2_11) rfl rfl k) ?_
  show Go _ _ _ _ _ _ _ T18 (mkF m 12 #[.val (.ref ao), .val (.ref al)] [(.ref al), (.int v1)])
  obtain ⟨T19, X19, e19, st19⟩ := getF X18 hx hZ hown (host := "") (Or.inl (hw _ (List.mem_of_getElem? (i := 16) rfl))) Via.refl e18 F2 (g := (mkF m 12 #[.val (.ref ao), .val (.ref al)] [(.ref al), (.int v1)])) rfl rfl (hb hby d2_12)
  refine Go.step st19 ?_
  show Go _ _ _ _ _ _ _ T19 (mkF m 15 #[.val (.ref ao), .val (.ref al)] [(.int v2), (.int v1)])
  by_cases hc15_20 : v1 < v2
  · refine Go.step (fun _ k => XS.icmpYes X19.here hx rfl (pc0 := 15) (pc' := 22) rfl (hb hby d2_15) rfl (tlt hc15_20).1 (by decide) (by decide) k) ?_
    show Go _ _ _ _ _ _ _ T19 (mkF m 22 #[.val (.ref ao), .val (.ref al)] [])
    refine Go.step (fun _ k => XS.iconst X19.here hx rfl (hb hby d2_22) k) ?_
    show Go _ _ _ _ _ _ _ T19 (mkF m 23 #[.val (.ref ao), .val (.ref al)] [(.int (0 : Int32))])
    exact Go.retN X19 hx (t := .boolean) hret hlk (by simp) (hb hby d2_23) e19 (by decide) (by decide) ⟨(congrArg (fun z => some (Value.int z)) (if_pos hc15_20).symm), N0, rfl⟩
  · refine Go.step (fun _ k => XS.icmpNo X19.here hx rfl (hb hby d2_15) rfl (flt hc15_20).1 k) ?_
    show Go _ _ _ _ _ _ _ T19 (mkF m 18 #[.val (.ref ao), .val (.ref al)] [])
    refine Go.step (fun _ k => XS.iconst X19.here hx rfl (hb hby d2_18) k) ?_
    show Go _ _ _ _ _ _ _ T19 (mkF m 19 #[.val (.ref ao), .val (.ref al)] [(.int (1 : Int32))])
    refine Go.step (fun _ k => XS.goto X19.here hx rfl (pc0 := 19) (pc' := 23) rfl (hb hby d2_19) (by decide) (by decide) k) ?_
    show Go _ _ _ _ _ _ _ T19 (mkF m 23 #[.val (.ref ao), .val (.ref al)] [(.int (1 : Int32))])
    exact Go.retN X19 hx (t := .boolean) hret hlk (by simp) (hb hby d2_23) e19 (by decide) (by decide) ⟨(congrArg (fun z => some (Value.int z)) (if_neg hc15_20).symm), N0, rfl⟩
theorem pd__I_Lcom_example_hearthlog_hearthlog_Level_ : parseMethodDescriptor "(I)Lcom/example/hearthlog/hearthlog/Level;" = some ⟨[.int], some (.object "com/example/hearthlog/hearthlog/Level")⟩ := by decide +kernel
theorem pd__Lcom_example_hearthlog_hearthlog_Level__Z : parseMethodDescriptor "(Lcom/example/hearthlog/hearthlog/Level;)Z" = some ⟨[(.object "com/example/hearthlog/hearthlog/Level")], some .boolean⟩ := by decide +kernel
theorem ef_rm0 (m : MethodId) (ie : Int32) (it : Int32) : entryFrame m #[(.int ie), (.int it)] maxLocals = mkF m 0 #[.val (.int ie), .val (.int it), .unset, .unset, .unset] [] := by first | (simp [entryFrame, mkF, argsToLocals, Value.category, maxLocals]; done) | rfl
def Q_rm0 (Z : State) (ie : Int32) (it : Int32) (lv : Nat → Addr) (h0 : Heap) (n0 : Nat) (v : Option Value) (h : Heap) (L : List Loc) : Prop := (v = some (.int (1 : Int32))) ∧ (Fr n0 L) ∧ (True)
set_option maxRecDepth 65536 in
set_option maxHeartbeats 40000000 in
theorem rm0 (l : Launch) (Z : State) (a0 : Array Value) (hw : ∀ d ∈ tables_1, d.before a0 Z = true) (ws : List Jvm.Cond) (ie : Int32) (it : Int32) (lv : Nat → Addr) (h0 : Heap) (n0 : Nat) (Z0 : n0 ≤ h0.size) (S0 : Sta Z h0 "com/example/hearthlog/hearthlog/Level" "ALL" "Lcom/example/hearthlog/hearthlog/Level;" (.ref (lv 0))) (S1 : Sta Z h0 "com/example/hearthlog/hearthlog/Level" "TRACE" "Lcom/example/hearthlog/hearthlog/Level;" (.ref (lv 1))) (S2 : Sta Z h0 "com/example/hearthlog/hearthlog/Level" "DEBUG" "Lcom/example/hearthlog/hearthlog/Level;" (.ref (lv 2))) (S3 : Sta Z h0 "com/example/hearthlog/hearthlog/Level" "INFO" "Lcom/example/hearthlog/hearthlog/Level;" (.ref (lv 3))) (S4 : Sta Z h0 "com/example/hearthlog/hearthlog/Level" "WARN" "Lcom/example/hearthlog/hearthlog/Level;" (.ref (lv 4))) (S5 : Sta Z h0 "com/example/hearthlog/hearthlog/Level" "ERROR" "Lcom/example/hearthlog/hearthlog/Level;" (.ref (lv 5))) (S6 : Sta Z h0 "com/example/hearthlog/hearthlog/Level" "FATAL" "Lcom/example/hearthlog/hearthlog/Level;" (.ref (lv 6))) (S7 : Sta Z h0 "com/example/hearthlog/hearthlog/Level" "OFF" "Lcom/example/hearthlog/hearthlog/Level;" (.ref (lv 7))) (HE : True → ∀ n, n < 8 → Exa Z h0 (lv n) "com/example/hearthlog/hearthlog/Level") (HF : True → ∀ n, n < 8 → Fld Z h0 (lv n) "com/example/hearthlog/hearthlog/Level" "value" "I" (.int (own_val n))) :
    MetFree l x (head1 (Jvm.Cond.code x code maxLocals ret :: ws) room_1) (fun aA U => aA = #[(.int ie), (.int it)] ∧ Z.Warmed39 U.vm ∧ U.heap = h0) (fun _ _ _ _ _ => True) (fun _ U o U' => ∃ v L, o = .returned v ∧ Q_rm0 Z ie it lv h0 n0 v U'.heap L ∧ FrameEnd U o U' L room_1.cells room_1.slots) := by
  refine MetFree.of_bodySF (plainFor_of_name pn_com_example_hearthlog_hearthlog_LevelReachesPinLaw) hisR ?_
  intro p e s m args below meth c s₁ Bd hml0 hP hK
  obtain ⟨rfl, hZ, hh⟩ := hP
  have hx := Bd.exec
  have hby := Bd.bytes
  have hml : c.maxLocals = 5 := hml0
  have hown : s.vm.findClass "com/example/hearthlog/hearthlog/LevelReachesPinLaw" = some m.cls := findClass_of_methodNamed Bd.named
  have hnm := (name_of_methodNamed Bd.named Bd.method).1
  have hret := Bd.returns
  have hlk : meth.locks = false := BodyLoose.notSynchronized Bd
  have X0 : Stand p l e room_1 s m #[(.int ie), (.int it)] below meth c s₁ [] 0 0 := Stand.of_body Bd
  have e0 : s₁.heap = h0 := by rw [← hh, Bd.state]; rfl
  have N0 := Fr.nil n0
  suffices hgo : Go p e below s room_1.cells room_1.slots (Q_rm0 Z ie it lv h0 n0) s₁ (mkF m 0 #[.val (.int ie), .val (.int it), .unset, .unset, .unset] []) from hgo.enter (ef_rm0 m ie it)
  have l8 : ∀ {a : Int32}, 0 ≤ a.toInt ∧ a.toInt < 8 → a.toNatClampNeg < 8 := fun h => by simp only [Int32.toNatClampNeg]; omega
  refine Go.step (fun _ k => XS.iloadN X0.here hx rfl (hb hby at_0) rfl k) ?_
  show Go _ _ _ _ _ _ _ s₁ (mkF m 1 #[.val (.int ie), .val (.int it), .unset, .unset, .unset] [(.int ie)])
  refine Go.step (fun _ k => XS.bipush X0.here hx rfl (hb hby at_1) k) ?_
  show Go _ _ _ _ _ _ _ s₁ (mkF m 3 #[.val (.int ie), .val (.int it), .unset, .unset, .unset] [(.int (7 : Int32)), (.int ie)])
  refine Go.step (fun _ k => XS.iand X0.here hx rfl (hb hby at_3) rfl k) ?_
  show Go _ _ _ _ _ _ _ s₁ (mkF m 4 #[.val (.int ie), .val (.int it), .unset, .unset, .unset] [(.int (ie &&& (7 : Int32)))])
  refine Go.step (fun _ k => XS.istoreN X0.here hx rfl (hb hby at_4) rfl (l' := #[.val (.int ie), .val (.int it), .val (.int (ie &&& (7 : Int32))), .unset, .unset]) rfl k) ?_
  show Go _ _ _ _ _ _ _ s₁ (mkF m 5 #[.val (.int ie), .val (.int it), .val (.int (ie &&& (7 : Int32))), .unset, .unset] [])
  have b_vi : 0 ≤ (ie &&& (7 : Int32)).toInt ∧ (ie &&& (7 : Int32)).toInt < 8 := (by have := rng32 ie; have : (7 : Int32).toInt = 7 := rfl; have := rng32 (ie &&& (7 : Int32)); have := c_mask ie (7 : Int32) 3 (by decide) (by decide); omega)
  generalize (ie &&& (7 : Int32)) = vi at b_vi ⊢
  show Go _ _ _ _ _ _ _ s₁ (mkF m 5 #[.val (.int ie), .val (.int it), .val (.int vi), .unset, .unset] [])
  refine Go.step (fun _ k => XS.iloadN X0.here hx rfl (hb hby at_5) rfl k) ?_
  show Go _ _ _ _ _ _ _ s₁ (mkF m 6 #[.val (.int ie), .val (.int it), .val (.int vi), .unset, .unset] [(.int it)])
  refine Go.step (fun _ k => XS.bipush X0.here hx rfl (hb hby at_6) k) ?_
  show Go _ _ _ _ _ _ _ s₁ (mkF m 8 #[.val (.int ie), .val (.int it), .val (.int vi), .unset, .unset] [(.int (7 : Int32)), (.int it)])
  refine Go.step (fun _ k => XS.iand X0.here hx rfl (hb hby at_8) rfl k) ?_
  show Go _ _ _ _ _ _ _ s₁ (mkF m 9 #[.val (.int ie), .val (.int it), .val (.int vi), .unset, .unset] [(.int (it &&& (7 : Int32)))])
  refine Go.step (fun _ k => XS.istoreN X0.here hx rfl (hb hby at_9) rfl (l' := #[.val (.int ie), .val (.int it), .val (.int vi), .val (.int (it &&& (7 : Int32))), .unset]) rfl k) ?_
  show Go _ _ _ _ _ _ _ s₁ (mkF m 10 #[.val (.int ie), .val (.int it), .val (.int vi), .val (.int (it &&& (7 : Int32))), .unset] [])
  have b_vj : 0 ≤ (it &&& (7 : Int32)).toInt ∧ (it &&& (7 : Int32)).toInt < 8 := (by have := rng32 it; have : (7 : Int32).toInt = 7 := rfl; have := rng32 (it &&& (7 : Int32)); have := c_mask it (7 : Int32) 3 (by decide) (by decide); omega)
  generalize (it &&& (7 : Int32)) = vj at b_vj ⊢
  show Go _ _ _ _ _ _ _ s₁ (mkF m 10 #[.val (.int ie), .val (.int it), .val (.int vi), .val (.int vj), .unset] [])
  refine Go.step (fun _ k => XS.iloadN X0.here hx rfl (hb hby at_10) rfl k) ?_
  show Go _ _ _ _ _ _ _ s₁ (mkF m 11 #[.val (.int ie), .val (.int it), .val (.int vi), .val (.int vj), .unset] [(.int vj)])
  refine Go.step (fun _ k => XS.bipush X0.here hx rfl (hb hby at_11) k) ?_
  show Go _ _ _ _ _ _ _ s₁ (mkF m 13 #[.val (.int ie), .val (.int it), .val (.int vi), .val (.int vj), .unset] [(.int (7 : Int32)), (.int vj)])
  by_cases hc13_21 : vj = (7 : Int32)
  · refine Go.step (fun _ k => XS.icmpYes X0.here hx rfl (pc0 := 13) (pc' := 25) rfl (hb hby at_13) rfl (teq hc13_21).1 (by decide) (by decide) k) ?_
    show Go _ _ _ _ _ _ _ s₁ (mkF m 25 #[.val (.int ie), .val (.int it), .val (.int vi), .val (.int vj), .unset] [])
    subst hc13_21
    show Go _ _ _ _ _ _ _ s₁ (mkF m 25 #[.val (.int ie), .val (.int it), .val (.int vi), .val (.int (7 : Int32)), .unset] [])
    refine Go.step (fun _ k => XS.iconst X0.here hx rfl (hb hby at_25) k) ?_
    show Go _ _ _ _ _ _ _ s₁ (mkF m 26 #[.val (.int ie), .val (.int it), .val (.int vi), .val (.int (7 : Int32)), .unset] [(.int (0 : Int32))])
    refine Go.step (fun _ k => XS.istore X0.here hx rfl (hb hby at_26) rfl (l' := #[.val (.int ie), .val (.int it), .val (.int vi), .val (.int (7 : Int32)), .val (.int (0 : Int32))]) rfl k) ?_
    show Go _ _ _ _ _ _ _ s₁ (mkF m 28 #[.val (.int ie), .val (.int it), .val (.int vi), .val (.int (7 : Int32)), .val (.int (0 : Int32))] [])
    refine Go.step (fun _ k => XS.iloadN X0.here hx rfl (hb hby at_28) rfl k) ?_
    show Go _ _ _ _ _ _ _ s₁ (mkF m 29 #[.val (.int ie), .val (.int it), .val (.int vi), .val (.int (7 : Int32)), .val (.int (0 : Int32))] [(.int vi)])
    obtain ⟨_, _, ⟨T22, L22, k22, n22⟩, -, X22, ⟨Lc22, hQ22, l22, y22, z22⟩, st22⟩ := Jvm.LawKit.callS X0 hx (y := (⟨"com/example/hearthlog/hearthlog/LevelReachesPinLaw", "pick", "(I)Lcom/example/hearthlog/hearthlog/Level;"⟩ : MethodName)) hown (mvT hZ (hw _ (List.mem_of_getElem? (i := 0) rfl))) (mvT hZ (hw _ (List.mem_of_getElem? (i := 1) rfl))) (mvT hZ (hw _ (List.mem_of_getElem? (i := 2) rfl))) (mvT hZ (hw _ (List.mem_of_getElem? (i := 3) rfl))) (by decide) (backOf (W := 0) (rmPi l Z a0 hw [] vi lv h0 n0 Z0 S0 S1 S2 S3 S4 S5 S6 S7 b_vi) hZ (hw _ (List.mem_of_getElem? (i := 3) rfl)) (hw _ (List.mem_of_getElem? (i := 2) rfl)) (by decide) (by decide)) (g := (mkF m 29 #[.val (.int ie), .val (.int it), .val (.int vi), .val (.int (7 : Int32)), .val (.int (0 : Int32))] [(.int vi)])) rfl (by rw [hml]; rfl) (argsL := [(.int vi)]) (rest := []) (lenOf pd__I_Lcom_example_hearthlog_hearthlog_Level_ rfl) rfl (by show 2 * 0 + _ ≤ _; exact Nat.le_of_eq rfl) (hb hby at_29) (fun _ _ => ⟨rfl, e0, (by decide : 0 + 0 ≤ _), (by decide : 0 + 0 ≤ _)⟩)
    dsimp only [Pt.U, Pt.locs, Pt.cells, Pt.slots] at X22 l22 y22 z22 st22 hQ22
    subst l22 y22 z22
    obtain ⟨h22, e22⟩ : ∃ h, T22.heap = h := ⟨_, rfl⟩
    rw [e22] at hQ22
    obtain ⟨rfl, Nq22, hs22⟩ := hQ22
    have N22 := Fr.app N0 Nq22
    rw [hs22] at e22
    refine Go.step st22 ?_
    show Go _ _ _ _ _ _ _ T22 (mkF m 32 #[.val (.int ie), .val (.int it), .val (.int vi), .val (.int (7 : Int32)), .val (.int (0 : Int32))] [(.ref (lv vi.toNatClampNeg))])
    refine Go.step (fun _ k => XS.iloadN X22.here hx rfl (hb hby at_32) rfl k) ?_
    show Go _ _ _ _ _ _ _ T22 (mkF m 33 #[.val (.int ie), .val (.int it), .val (.int vi), .val (.int (7 : Int32)), .val (.int (0 : Int32))] [(.int (7 : Int32)), (.ref (lv vi.toNatClampNeg))])
    obtain ⟨_, _, ⟨T23, L23, k23, n23⟩, -, X23, ⟨Lc23, hQ23, l23, y23, z23⟩, st23⟩ := Jvm.LawKit.callS X22 hx (y := (⟨"com/example/hearthlog/hearthlog/LevelReachesPinLaw", "pick", "(I)Lcom/example/hearthlog/hearthlog/Level;"⟩ : MethodName)) hown (mvT hZ (hw _ (List.mem_of_getElem? (i := 0) rfl))) (mvT hZ (hw _ (List.mem_of_getElem? (i := 1) rfl))) (mvT hZ (hw _ (List.mem_of_getElem? (i := 2) rfl))) (mvT hZ (hw _ (List.mem_of_getElem? (i := 3) rfl))) (by decide) (backOf (W := 1) (rmPi l Z a0 hw [] (7 : Int32) lv h0 n0 Z0 S0 S1 S2 S3 S4 S5 S6 S7 (by decide)) hZ (hw _ (List.mem_of_getElem? (i := 3) rfl)) (hw _ (List.mem_of_getElem? (i := 2) rfl)) (by decide) (by decide)) (g := (mkF m 33 #[.val (.int ie), .val (.int it), .val (.int vi), .val (.int (7 : Int32)), .val (.int (0 : Int32))] [(.int (7 : Int32)), (.ref (lv vi.toNatClampNeg))])) rfl (by rw [hml]; rfl) (argsL := [(.int (7 : Int32))]) (rest := [(.ref (lv vi.toNatClampNeg))]) (lenOf pd__I_Lcom_example_hearthlog_hearthlog_Level_ rfl) rfl (by show 2 * 0 + _ ≤ _; exact Nat.le_of_eq rfl) (hb hby at_33) (fun _ _ => ⟨rfl, e22, (by decide : 0 + 0 ≤ _), (by decide : 0 + 0 ≤ _)⟩)
    dsimp only [Pt.U, Pt.locs, Pt.cells, Pt.slots] at X23 l23 y23 z23 st23 hQ23
    subst l23 y23 z23
    obtain ⟨h23, e23⟩ : ∃ h, T23.heap = h := ⟨_, rfl⟩
    rw [e23] at hQ23
    obtain ⟨rfl, Nq23, hs23⟩ := hQ23
    have N23 := Fr.app N22 Nq23
    rw [hs23] at e23
    refine Go.step st23 ?_
    show Go _ _ _ _ _ _ _ T23 (mkF m 36 #[.val (.int ie), .val (.int it), .val (.int vi), .val (.int (7 : Int32)), .val (.int (0 : Int32))] [(.ref (lv (7 : Int32).toNatClampNeg)), (.ref (lv vi.toNatClampNeg))])
    obtain ⟨cq24, kq24, q24a, q24b, q24c⟩ := isOf hZ e23 (HE trivial _ (l8 b_vi))
    obtain ⟨_, _, ⟨T24, L24, k24, n24⟩, -, X24, ⟨Lc24, hQ24, l24, y24, z24⟩, st24⟩ := X23.virtualBack hx (y := (⟨"com/example/hearthlog/hearthlog/Level", "reaches", "(Lcom/example/hearthlog/hearthlog/Level;)Z"⟩ : MethodName)) (z := (⟨"com/example/hearthlog/hearthlog/Level", "reaches", "(Lcom/example/hearthlog/hearthlog/Level;)Z"⟩ : MethodName)) hown (mvT hZ (hw _ (List.mem_of_getElem? (i := 9) rfl))) (mvT hZ (hw _ (List.mem_of_getElem? (i := 10) rfl))) (notFace_of_selects (args := #[]) (mvT hZ (hw _ (List.mem_of_getElem? (i := 12) rfl)))) (mvT hZ (hw _ (List.mem_of_getElem? (i := 12) rfl))) (mvT hZ (hw _ (List.mem_of_getElem? (i := 11) rfl))) (by decide) (backOf (W := 0) (rmRa l Z a0 hw [] (lv vi.toNatClampNeg) (lv (7 : Int32).toNatClampNeg) h0 n0 Z0 S7) hZ (hw _ (List.mem_of_getElem? (i := 13) rfl)) (hw _ (List.mem_of_getElem? (i := 5) rfl)) (by decide) (by decide)) q24a q24c (g := (mkF m 36 #[.val (.int ie), .val (.int it), .val (.int vi), .val (.int (7 : Int32)), .val (.int (0 : Int32))] [(.ref (lv (7 : Int32).toNatClampNeg)), (.ref (lv vi.toNatClampNeg))])) rfl (by rw [hml]; rfl) (Steps.refl _) (argsL := [(.ref (lv (7 : Int32).toNatClampNeg))]) (rest := []) (lenOf pd__Lcom_example_hearthlog_hearthlog_Level__Z rfl) rfl (by show 2 * 0 + _ ≤ _; exact Nat.le_of_eq rfl) (hb hby at_36) (fun _ _ => ⟨rfl, e23, (by decide : 0 + 0 ≤ _), (by decide : 0 + 0 ≤ _)⟩)
    dsimp only [Pt.U, Pt.locs, Pt.cells, Pt.slots] at X24 l24 y24 z24 st24 hQ24
    subst l24 y24 z24
    obtain ⟨h24, e24⟩ : ∃ h, T24.heap = h := ⟨_, rfl⟩
    rw [e24] at hQ24
    obtain ⟨rfl, Nq24, hs24⟩ := hQ24
    have N24 := Fr.app N23 Nq24
    rw [hs24] at e24
    refine Go.trans st24 ?_
    show Go _ _ _ _ _ _ _ T24 (mkF m 39 #[.val (.int ie), .val (.int it), .val (.int vi), .val (.int (7 : Int32)), .val (.int (0 : Int32))] [(.int (0 : Int32))])
    refine Go.step (fun _ k => XS.iload X24.here hx rfl (hb hby at_39) rfl k) ?_
    show Go _ _ _ _ _ _ _ T24 (mkF m 41 #[.val (.int ie), .val (.int it), .val (.int vi), .val (.int (7 : Int32)), .val (.int (0 : Int32))] [(.int (0 : Int32)), (.int (0 : Int32))])
    have hc41_25 : (0 : Int32) = (0 : Int32) := (by decide)
    refine Go.step (fun _ k => XS.icmpNo X24.here hx rfl (hb hby at_41) rfl (teq hc41_25).2 k) ?_
    show Go _ _ _ _ _ _ _ T24 (mkF m 44 #[.val (.int ie), .val (.int it), .val (.int vi), .val (.int (7 : Int32)), .val (.int (0 : Int32))] [])
    refine Go.step (fun _ k => XS.iconst X24.here hx rfl (hb hby at_44) k) ?_
    show Go _ _ _ _ _ _ _ T24 (mkF m 45 #[.val (.int ie), .val (.int it), .val (.int vi), .val (.int (7 : Int32)), .val (.int (0 : Int32))] [(.int (1 : Int32))])
    refine Go.step (fun _ k => XS.goto X24.here hx rfl (pc0 := 45) (pc' := 49) rfl (hb hby at_45) (by decide) (by decide) k) ?_
    show Go _ _ _ _ _ _ _ T24 (mkF m 49 #[.val (.int ie), .val (.int it), .val (.int vi), .val (.int (7 : Int32)), .val (.int (0 : Int32))] [(.int (1 : Int32))])
    exact Go.retN X24 hx (t := .boolean) hret hlk (by simp) (hb hby at_49) e24 (by decide) (by decide) ⟨rfl, N24, trivial⟩
  · refine Go.step (fun _ k => XS.icmpNo X0.here hx rfl (hb hby at_13) rfl (feq hc13_21).1 k) ?_
    show Go _ _ _ _ _ _ _ s₁ (mkF m 16 #[.val (.int ie), .val (.int it), .val (.int vi), .val (.int vj), .unset] [])
    refine Go.step (fun _ k => XS.iloadN X0.here hx rfl (hb hby at_16) rfl k) ?_
    show Go _ _ _ _ _ _ _ s₁ (mkF m 17 #[.val (.int ie), .val (.int it), .val (.int vi), .val (.int vj), .unset] [(.int vi)])
    refine Go.step (fun _ k => XS.iloadN X0.here hx rfl (hb hby at_17) rfl k) ?_
    show Go _ _ _ _ _ _ _ s₁ (mkF m 18 #[.val (.int ie), .val (.int it), .val (.int vi), .val (.int vj), .unset] [(.int vj), (.int vi)])
    by_cases hc18_26 : vi < vj
    · refine Go.step (fun _ k => XS.icmpYes X0.here hx rfl (pc0 := 18) (pc' := 25) rfl (hb hby at_18) rfl (tlt hc18_26).1 (by decide) (by decide) k) ?_
      show Go _ _ _ _ _ _ _ s₁ (mkF m 25 #[.val (.int ie), .val (.int it), .val (.int vi), .val (.int vj), .unset] [])
      refine Go.step (fun _ k => XS.iconst X0.here hx rfl (hb hby at_25) k) ?_
      show Go _ _ _ _ _ _ _ s₁ (mkF m 26 #[.val (.int ie), .val (.int it), .val (.int vi), .val (.int vj), .unset] [(.int (0 : Int32))])
      refine Go.step (fun _ k => XS.istore X0.here hx rfl (hb hby at_26) rfl (l' := #[.val (.int ie), .val (.int it), .val (.int vi), .val (.int vj), .val (.int (0 : Int32))]) rfl k) ?_
      show Go _ _ _ _ _ _ _ s₁ (mkF m 28 #[.val (.int ie), .val (.int it), .val (.int vi), .val (.int vj), .val (.int (0 : Int32))] [])
      refine Go.step (fun _ k => XS.iloadN X0.here hx rfl (hb hby at_28) rfl k) ?_
      show Go _ _ _ _ _ _ _ s₁ (mkF m 29 #[.val (.int ie), .val (.int it), .val (.int vi), .val (.int vj), .val (.int (0 : Int32))] [(.int vi)])
      obtain ⟨_, _, ⟨T27, L27, k27, n27⟩, -, X27, ⟨Lc27, hQ27, l27, y27, z27⟩, st27⟩ := Jvm.LawKit.callS X0 hx (y := (⟨"com/example/hearthlog/hearthlog/LevelReachesPinLaw", "pick", "(I)Lcom/example/hearthlog/hearthlog/Level;"⟩ : MethodName)) hown (mvT hZ (hw _ (List.mem_of_getElem? (i := 0) rfl))) (mvT hZ (hw _ (List.mem_of_getElem? (i := 1) rfl))) (mvT hZ (hw _ (List.mem_of_getElem? (i := 2) rfl))) (mvT hZ (hw _ (List.mem_of_getElem? (i := 3) rfl))) (by decide) (backOf (W := 0) (rmPi l Z a0 hw [] vi lv h0 n0 Z0 S0 S1 S2 S3 S4 S5 S6 S7 b_vi) hZ (hw _ (List.mem_of_getElem? (i := 3) rfl)) (hw _ (List.mem_of_getElem? (i := 2) rfl)) (by decide) (by decide)) (g := (mkF m 29 #[.val (.int ie), .val (.int it), .val (.int vi), .val (.int vj), .val (.int (0 : Int32))] [(.int vi)])) rfl (by rw [hml]; rfl) (argsL := [(.int vi)]) (rest := []) (lenOf pd__I_Lcom_example_hearthlog_hearthlog_Level_ rfl) rfl (by show 2 * 0 + _ ≤ _; exact Nat.le_of_eq rfl) (hb hby at_29) (fun _ _ => ⟨rfl, e0, (by decide : 0 + 0 ≤ _), (by decide : 0 + 0 ≤ _)⟩)
      dsimp only [Pt.U, Pt.locs, Pt.cells, Pt.slots] at X27 l27 y27 z27 st27 hQ27
      subst l27 y27 z27
      obtain ⟨h27, e27⟩ : ∃ h, T27.heap = h := ⟨_, rfl⟩
      rw [e27] at hQ27
      obtain ⟨rfl, Nq27, hs27⟩ := hQ27
      have N27 := Fr.app N0 Nq27
      rw [hs27] at e27
      refine Go.step st27 ?_
      show Go _ _ _ _ _ _ _ T27 (mkF m 32 #[.val (.int ie), .val (.int it), .val (.int vi), .val (.int vj), .val (.int (0 : Int32))] [(.ref (lv vi.toNatClampNeg))])
      refine Go.step (fun _ k => XS.iloadN X27.here hx rfl (hb hby at_32) rfl k) ?_
      show Go _ _ _ _ _ _ _ T27 (mkF m 33 #[.val (.int ie), .val (.int it), .val (.int vi), .val (.int vj), .val (.int (0 : Int32))] [(.int vj), (.ref (lv vi.toNatClampNeg))])
      obtain ⟨_, _, ⟨T28, L28, k28, n28⟩, -, X28, ⟨Lc28, hQ28, l28, y28, z28⟩, st28⟩ := Jvm.LawKit.callS X27 hx (y := (⟨"com/example/hearthlog/hearthlog/LevelReachesPinLaw", "pick", "(I)Lcom/example/hearthlog/hearthlog/Level;"⟩ : MethodName)) hown (mvT hZ (hw _ (List.mem_of_getElem? (i := 0) rfl))) (mvT hZ (hw _ (List.mem_of_getElem? (i := 1) rfl))) (mvT hZ (hw _ (List.mem_of_getElem? (i := 2) rfl))) (mvT hZ (hw _ (List.mem_of_getElem? (i := 3) rfl))) (by decide) (backOf (W := 1) (rmPi l Z a0 hw [] vj lv h0 n0 Z0 S0 S1 S2 S3 S4 S5 S6 S7 b_vj) hZ (hw _ (List.mem_of_getElem? (i := 3) rfl)) (hw _ (List.mem_of_getElem? (i := 2) rfl)) (by decide) (by decide)) (g := (mkF m 33 #[.val (.int ie), .val (.int it), .val (.int vi), .val (.int vj), .val (.int (0 : Int32))] [(.int vj), (.ref (lv vi.toNatClampNeg))])) rfl (by rw [hml]; rfl) (argsL := [(.int vj)]) (rest := [(.ref (lv vi.toNatClampNeg))]) (lenOf pd__I_Lcom_example_hearthlog_hearthlog_Level_ rfl) rfl (by show 2 * 0 + _ ≤ _; exact Nat.le_of_eq rfl) (hb hby at_33) (fun _ _ => ⟨rfl, e27, (by decide : 0 + 0 ≤ _), (by decide : 0 + 0 ≤ _)⟩)
      dsimp only [Pt.U, Pt.locs, Pt.cells, Pt.slots] at X28 l28 y28 z28 st28 hQ28
      subst l28 y28 z28
      obtain ⟨h28, e28⟩ : ∃ h, T28.heap = h := ⟨_, rfl⟩
      rw [e28] at hQ28
      obtain ⟨rfl, Nq28, hs28⟩ := hQ28
      have N28 := Fr.app N27 Nq28
      rw [hs28] at e28
      refine Go.step st28 ?_
      show Go _ _ _ _ _ _ _ T28 (mkF m 36 #[.val (.int ie), .val (.int it), .val (.int vi), .val (.int vj), .val (.int (0 : Int32))] [(.ref (lv vj.toNatClampNeg)), (.ref (lv vi.toNatClampNeg))])
      obtain ⟨cq29, kq29, q29a, q29b, q29c⟩ := isOf hZ e28 (HE trivial _ (l8 b_vi))
      obtain ⟨_, _, ⟨T29, L29, k29, n29⟩, -, X29, ⟨Lc29, hQ29, l29, y29, z29⟩, st29⟩ := X28.virtualBack hx (y := (⟨"com/example/hearthlog/hearthlog/Level", "reaches", "(Lcom/example/hearthlog/hearthlog/Level;)Z"⟩ : MethodName)) (z := (⟨"com/example/hearthlog/hearthlog/Level", "reaches", "(Lcom/example/hearthlog/hearthlog/Level;)Z"⟩ : MethodName)) hown (mvT hZ (hw _ (List.mem_of_getElem? (i := 9) rfl))) (mvT hZ (hw _ (List.mem_of_getElem? (i := 10) rfl))) (notFace_of_selects (args := #[]) (mvT hZ (hw _ (List.mem_of_getElem? (i := 12) rfl)))) (mvT hZ (hw _ (List.mem_of_getElem? (i := 12) rfl))) (mvT hZ (hw _ (List.mem_of_getElem? (i := 11) rfl))) (by decide) (backOf (W := 0) (rmRb l Z a0 hw [] (lv vi.toNatClampNeg) (lv vj.toNatClampNeg) (own_val vi.toNatClampNeg) (own_val vj.toNatClampNeg) (lv 7) h0 n0 Z0 S7 (HF trivial _ (l8 b_vi)) (HF trivial _ (l8 b_vj)) ((HF trivial _ (l8 b_vj)).ne (HF trivial 7 (by decide)) (fun q => own_ne7 b_vj hc13_21 (Value.int.inj q)))) hZ (hw _ (List.mem_of_getElem? (i := 13) rfl)) (hw _ (List.mem_of_getElem? (i := 5) rfl)) (by decide) (by decide)) q29a q29c (g := (mkF m 36 #[.val (.int ie), .val (.int it), .val (.int vi), .val (.int vj), .val (.int (0 : Int32))] [(.ref (lv vj.toNatClampNeg)), (.ref (lv vi.toNatClampNeg))])) rfl (by rw [hml]; rfl) (Steps.refl _) (argsL := [(.ref (lv vj.toNatClampNeg))]) (rest := []) (lenOf pd__Lcom_example_hearthlog_hearthlog_Level__Z rfl) rfl (by show 2 * 0 + _ ≤ _; exact Nat.le_of_eq rfl) (hb hby at_36) (fun _ _ => ⟨rfl, e28, (by decide : 0 + 0 ≤ _), (by decide : 0 + 0 ≤ _)⟩)
      dsimp only [Pt.U, Pt.locs, Pt.cells, Pt.slots] at X29 l29 y29 z29 st29 hQ29
      subst l29 y29 z29
      obtain ⟨h29, e29⟩ : ∃ h, T29.heap = h := ⟨_, rfl⟩
      rw [e29] at hQ29
      obtain ⟨rfl, Nq29, hs29⟩ := hQ29
      have N29 := Fr.app N28 Nq29
      rw [hs29] at e29
      refine Go.trans st29 ?_
      show Go _ _ _ _ _ _ _ T29 (mkF m 39 #[.val (.int ie), .val (.int it), .val (.int vi), .val (.int vj), .val (.int (0 : Int32))] [(.int (if (own_val vi.toNatClampNeg) < (own_val vj.toNatClampNeg) then (0 : Int32) else 1))])
      refine Go.step (fun _ k => XS.iload X29.here hx rfl (hb hby at_39) rfl k) ?_
      show Go _ _ _ _ _ _ _ T29 (mkF m 41 #[.val (.int ie), .val (.int it), .val (.int vi), .val (.int vj), .val (.int (0 : Int32))] [(.int (0 : Int32)), (.int (if (own_val vi.toNatClampNeg) < (own_val vj.toNatClampNeg) then (0 : Int32) else 1))])
      have hc41_30 : (if (own_val vi.toNatClampNeg) < (own_val vj.toNatClampNeg) then (0 : Int32) else 1) = (0 : Int32) := (if_pos ((own_tl b_vi b_vj).mpr hc18_26))
      refine Go.step (fun _ k => XS.icmpNo X29.here hx rfl (hb hby at_41) rfl (teq hc41_30).2 k) ?_
      show Go _ _ _ _ _ _ _ T29 (mkF m 44 #[.val (.int ie), .val (.int it), .val (.int vi), .val (.int vj), .val (.int (0 : Int32))] [])
      refine Go.step (fun _ k => XS.iconst X29.here hx rfl (hb hby at_44) k) ?_
      show Go _ _ _ _ _ _ _ T29 (mkF m 45 #[.val (.int ie), .val (.int it), .val (.int vi), .val (.int vj), .val (.int (0 : Int32))] [(.int (1 : Int32))])
      refine Go.step (fun _ k => XS.goto X29.here hx rfl (pc0 := 45) (pc' := 49) rfl (hb hby at_45) (by decide) (by decide) k) ?_
      show Go _ _ _ _ _ _ _ T29 (mkF m 49 #[.val (.int ie), .val (.int it), .val (.int vi), .val (.int vj), .val (.int (0 : Int32))] [(.int (1 : Int32))])
      exact Go.retN X29 hx (t := .boolean) hret hlk (by simp) (hb hby at_49) e29 (by decide) (by decide) ⟨rfl, N29, trivial⟩
    · refine Go.step (fun _ k => XS.icmpNo X0.here hx rfl (hb hby at_18) rfl (flt hc18_26).1 k) ?_
      show Go _ _ _ _ _ _ _ s₁ (mkF m 21 #[.val (.int ie), .val (.int it), .val (.int vi), .val (.int vj), .unset] [])
      refine Go.step (fun _ k => XS.iconst X0.here hx rfl (hb hby at_21) k) ?_
      show Go _ _ _ _ _ _ _ s₁ (mkF m 22 #[.val (.int ie), .val (.int it), .val (.int vi), .val (.int vj), .unset] [(.int (1 : Int32))])
      refine Go.step (fun _ k => XS.goto X0.here hx rfl (pc0 := 22) (pc' := 26) rfl (hb hby at_22) (by decide) (by decide) k) ?_
      show Go _ _ _ _ _ _ _ s₁ (mkF m 26 #[.val (.int ie), .val (.int it), .val (.int vi), .val (.int vj), .unset] [(.int (1 : Int32))])
      refine Go.step (fun _ k => XS.istore X0.here hx rfl (hb hby at_26) rfl (l' := #[.val (.int ie), .val (.int it), .val (.int vi), .val (.int vj), .val (.int (1 : Int32))]) rfl k) ?_
      show Go _ _ _ _ _ _ _ s₁ (mkF m 28 #[.val (.int ie), .val (.int it), .val (.int vi), .val (.int vj), .val (.int (1 : Int32))] [])
      refine Go.step (fun _ k => XS.iloadN X0.here hx rfl (hb hby at_28) rfl k) ?_
      show Go _ _ _ _ _ _ _ s₁ (mkF m 29 #[.val (.int ie), .val (.int it), .val (.int vi), .val (.int vj), .val (.int (1 : Int32))] [(.int vi)])
      obtain ⟨_, _, ⟨T31, L31, k31, n31⟩, -, X31, ⟨Lc31, hQ31, l31, y31, z31⟩, st31⟩ := Jvm.LawKit.callS X0 hx (y := (⟨"com/example/hearthlog/hearthlog/LevelReachesPinLaw", "pick", "(I)Lcom/example/hearthlog/hearthlog/Level;"⟩ : MethodName)) hown (mvT hZ (hw _ (List.mem_of_getElem? (i := 0) rfl))) (mvT hZ (hw _ (List.mem_of_getElem? (i := 1) rfl))) (mvT hZ (hw _ (List.mem_of_getElem? (i := 2) rfl))) (mvT hZ (hw _ (List.mem_of_getElem? (i := 3) rfl))) (by decide) (backOf (W := 0) (rmPi l Z a0 hw [] vi lv h0 n0 Z0 S0 S1 S2 S3 S4 S5 S6 S7 b_vi) hZ (hw _ (List.mem_of_getElem? (i := 3) rfl)) (hw _ (List.mem_of_getElem? (i := 2) rfl)) (by decide) (by decide)) (g := (mkF m 29 #[.val (.int ie), .val (.int it), .val (.int vi), .val (.int vj), .val (.int (1 : Int32))] [(.int vi)])) rfl (by rw [hml]; rfl) (argsL := [(.int vi)]) (rest := []) (lenOf pd__I_Lcom_example_hearthlog_hearthlog_Level_ rfl) rfl (by show 2 * 0 + _ ≤ _; exact Nat.le_of_eq rfl) (hb hby at_29) (fun _ _ => ⟨rfl, e0, (by decide : 0 + 0 ≤ _), (by decide : 0 + 0 ≤ _)⟩)
      dsimp only [Pt.U, Pt.locs, Pt.cells, Pt.slots] at X31 l31 y31 z31 st31 hQ31
      subst l31 y31 z31
      obtain ⟨h31, e31⟩ : ∃ h, T31.heap = h := ⟨_, rfl⟩
      rw [e31] at hQ31
      obtain ⟨rfl, Nq31, hs31⟩ := hQ31
      have N31 := Fr.app N0 Nq31
      rw [hs31] at e31
      refine Go.step st31 ?_
      show Go _ _ _ _ _ _ _ T31 (mkF m 32 #[.val (.int ie), .val (.int it), .val (.int vi), .val (.int vj), .val (.int (1 : Int32))] [(.ref (lv vi.toNatClampNeg))])
      refine Go.step (fun _ k => XS.iloadN X31.here hx rfl (hb hby at_32) rfl k) ?_
      show Go _ _ _ _ _ _ _ T31 (mkF m 33 #[.val (.int ie), .val (.int it), .val (.int vi), .val (.int vj), .val (.int (1 : Int32))] [(.int vj), (.ref (lv vi.toNatClampNeg))])
      obtain ⟨_, _, ⟨T32, L32, k32, n32⟩, -, X32, ⟨Lc32, hQ32, l32, y32, z32⟩, st32⟩ := Jvm.LawKit.callS X31 hx (y := (⟨"com/example/hearthlog/hearthlog/LevelReachesPinLaw", "pick", "(I)Lcom/example/hearthlog/hearthlog/Level;"⟩ : MethodName)) hown (mvT hZ (hw _ (List.mem_of_getElem? (i := 0) rfl))) (mvT hZ (hw _ (List.mem_of_getElem? (i := 1) rfl))) (mvT hZ (hw _ (List.mem_of_getElem? (i := 2) rfl))) (mvT hZ (hw _ (List.mem_of_getElem? (i := 3) rfl))) (by decide) (backOf (W := 1) (rmPi l Z a0 hw [] vj lv h0 n0 Z0 S0 S1 S2 S3 S4 S5 S6 S7 b_vj) hZ (hw _ (List.mem_of_getElem? (i := 3) rfl)) (hw _ (List.mem_of_getElem? (i := 2) rfl)) (by decide) (by decide)) (g := (mkF m 33 #[.val (.int ie), .val (.int it), .val (.int vi), .val (.int vj), .val (.int (1 : Int32))] [(.int vj), (.ref (lv vi.toNatClampNeg))])) rfl (by rw [hml]; rfl) (argsL := [(.int vj)]) (rest := [(.ref (lv vi.toNatClampNeg))]) (lenOf pd__I_Lcom_example_hearthlog_hearthlog_Level_ rfl) rfl (by show 2 * 0 + _ ≤ _; exact Nat.le_of_eq rfl) (hb hby at_33) (fun _ _ => ⟨rfl, e31, (by decide : 0 + 0 ≤ _), (by decide : 0 + 0 ≤ _)⟩)
      dsimp only [Pt.U, Pt.locs, Pt.cells, Pt.slots] at X32 l32 y32 z32 st32 hQ32
      subst l32 y32 z32
      obtain ⟨h32, e32⟩ : ∃ h, T32.heap = h := ⟨_, rfl⟩
      rw [e32] at hQ32
      obtain ⟨rfl, Nq32, hs32⟩ := hQ32
      have N32 := Fr.app N31 Nq32
      rw [hs32] at e32
      refine Go.step st32 ?_
      show Go _ _ _ _ _ _ _ T32 (mkF m 36 #[.val (.int ie), .val (.int it), .val (.int vi), .val (.int vj), .val (.int (1 : Int32))] [(.ref (lv vj.toNatClampNeg)), (.ref (lv vi.toNatClampNeg))])
      obtain ⟨cq33, kq33, q33a, q33b, q33c⟩ := isOf hZ e32 (HE trivial _ (l8 b_vi))
      obtain ⟨_, _, ⟨T33, L33, k33, n33⟩, -, X33, ⟨Lc33, hQ33, l33, y33, z33⟩, st33⟩ := X32.virtualBack hx (y := (⟨"com/example/hearthlog/hearthlog/Level", "reaches", "(Lcom/example/hearthlog/hearthlog/Level;)Z"⟩ : MethodName)) (z := (⟨"com/example/hearthlog/hearthlog/Level", "reaches", "(Lcom/example/hearthlog/hearthlog/Level;)Z"⟩ : MethodName)) hown (mvT hZ (hw _ (List.mem_of_getElem? (i := 9) rfl))) (mvT hZ (hw _ (List.mem_of_getElem? (i := 10) rfl))) (notFace_of_selects (args := #[]) (mvT hZ (hw _ (List.mem_of_getElem? (i := 12) rfl)))) (mvT hZ (hw _ (List.mem_of_getElem? (i := 12) rfl))) (mvT hZ (hw _ (List.mem_of_getElem? (i := 11) rfl))) (by decide) (backOf (W := 0) (rmRb l Z a0 hw [] (lv vi.toNatClampNeg) (lv vj.toNatClampNeg) (own_val vi.toNatClampNeg) (own_val vj.toNatClampNeg) (lv 7) h0 n0 Z0 S7 (HF trivial _ (l8 b_vi)) (HF trivial _ (l8 b_vj)) ((HF trivial _ (l8 b_vj)).ne (HF trivial 7 (by decide)) (fun q => own_ne7 b_vj hc13_21 (Value.int.inj q)))) hZ (hw _ (List.mem_of_getElem? (i := 13) rfl)) (hw _ (List.mem_of_getElem? (i := 5) rfl)) (by decide) (by decide)) q33a q33c (g := (mkF m 36 #[.val (.int ie), .val (.int it), .val (.int vi), .val (.int vj), .val (.int (1 : Int32))] [(.ref (lv vj.toNatClampNeg)), (.ref (lv vi.toNatClampNeg))])) rfl (by rw [hml]; rfl) (Steps.refl _) (argsL := [(.ref (lv vj.toNatClampNeg))]) (rest := []) (lenOf pd__Lcom_example_hearthlog_hearthlog_Level__Z rfl) rfl (by show 2 * 0 + _ ≤ _; exact Nat.le_of_eq rfl) (hb hby at_36) (fun _ _ => ⟨rfl, e32, (by decide : 0 + 0 ≤ _), (by decide : 0 + 0 ≤ _)⟩)
      dsimp only [Pt.U, Pt.locs, Pt.cells, Pt.slots] at X33 l33 y33 z33 st33 hQ33
      subst l33 y33 z33
      obtain ⟨h33, e33⟩ : ∃ h, T33.heap = h := ⟨_, rfl⟩
      rw [e33] at hQ33
      obtain ⟨rfl, Nq33, hs33⟩ := hQ33
      have N33 := Fr.app N32 Nq33
      rw [hs33] at e33
      refine Go.trans st33 ?_
      show Go _ _ _ _ _ _ _ T33 (mkF m 39 #[.val (.int ie), .val (.int it), .val (.int vi), .val (.int vj), .val (.int (1 : Int32))] [(.int (if (own_val vi.toNatClampNeg) < (own_val vj.toNatClampNeg) then (0 : Int32) else 1))])
      refine Go.step (fun _ k => XS.iload X33.here hx rfl (hb hby at_39) rfl k) ?_
      show Go _ _ _ _ _ _ _ T33 (mkF m 41 #[.val (.int ie), .val (.int it), .val (.int vi), .val (.int vj), .val (.int (1 : Int32))] [(.int (1 : Int32)), (.int (if (own_val vi.toNatClampNeg) < (own_val vj.toNatClampNeg) then (0 : Int32) else 1))])
      have hc41_34 : (if (own_val vi.toNatClampNeg) < (own_val vj.toNatClampNeg) then (0 : Int32) else 1) = (1 : Int32) := (if_neg (mt (own_tl b_vi b_vj).mp hc18_26))
      refine Go.step (fun _ k => XS.icmpNo X33.here hx rfl (hb hby at_41) rfl (teq hc41_34).2 k) ?_
      show Go _ _ _ _ _ _ _ T33 (mkF m 44 #[.val (.int ie), .val (.int it), .val (.int vi), .val (.int vj), .val (.int (1 : Int32))] [])
      refine Go.step (fun _ k => XS.iconst X33.here hx rfl (hb hby at_44) k) ?_
      show Go _ _ _ _ _ _ _ T33 (mkF m 45 #[.val (.int ie), .val (.int it), .val (.int vi), .val (.int vj), .val (.int (1 : Int32))] [(.int (1 : Int32))])
      refine Go.step (fun _ k => XS.goto X33.here hx rfl (pc0 := 45) (pc' := 49) rfl (hb hby at_45) (by decide) (by decide) k) ?_
      show Go _ _ _ _ _ _ _ T33 (mkF m 49 #[.val (.int ie), .val (.int it), .val (.int vi), .val (.int vj), .val (.int (1 : Int32))] [(.int (1 : Int32))])
      exact Go.retN X33 hx (t := .boolean) hret hlk (by simp) (hb hby at_49) e33 (by decide) (by decide) ⟨rfl, N33, trivial⟩
set_option maxRecDepth 65536 in
set_option maxHeartbeats 40000000 in
theorem comes_1 {Post : Tables → Env → Array Value → State → Outcome → State → Prop} (hpost : ∀ tb e args s v u, (limb_1_1.after args s (.returned v) u = true ∧ limb_1_2.after args s (.returned v) u = true ∧ True) → FrameEnd s (.returned v) u (Jvm.fieldLocs frame_1_writes args s ++ Jvm.arrayLocs frame_1_arrays args s ++ Jvm.staticLocs frame_1_statics s) 0 0 → Post tb e args s (.returned v) u) :
    ArmFor flags0 classFile x code maxLocals ret World_1 tables_1 room_1 Calls_1 rest_1 Pre_1 Post := by
  intro l hfl _ _ p e ha hc hk s m args below hf hA hF happ hP
  obtain ⟨hcalls, hrest, hpre⟩ := hP
  obtain ⟨-, -, -, hnamed, -, -, -, hat⟩ := (Spec.applies_iff hf).mp happ
  obtain ⟨hg, hn⟩ := and_e (Cond.before_iff.mp (show (Jvm.Cond.and given_1 narrow_1).before args s = true from hpre))
  obtain ⟨gg1, gg2⟩ := and_e hg
  obtain ⟨gg3, gg4⟩ := and_e gg2
  obtain ⟨w0, w1, rfl⟩ : ∃ w0 w1 : Value, args = #[w0, w1] := by
    have hs : args.size = 2 := by simpa [Cond.value, given_1] using gg1
    obtain ⟨L⟩ := args
    match L, hs with
    | [w0, w1], _ => exact ⟨w0, w1, rfl⟩
  have hw := fun d (hd : d ∈ tables_1) => atoms_spec (ws := Jvm.Cond.code x code maxLocals ret :: tables_1) hat d (List.mem_cons_of_mem _ hd)
  have hfit : Fit s := fun {y c} hc i hi => by
    obtain ⟨ha, rfl⟩ := Array.getElem?_eq_some_iff.mp hc
    have q := List.all_eq_true.mp ((Array.all_eq_true_iff_forall_mem.mp hF) _ (Array.getElem_mem ha)) i (List.mem_range.mpr hi)
    simpa [Array.getElem?_eq_getElem hi] using q
  obtain ⟨ie, ei0⟩ := is_v gg3
  obtain rfl : w0 = (.int ie) := Option.some.inj ei0
  obtain ⟨it, ei1⟩ := is_v gg4
  obtain rfl : w1 = (.int it) := Option.some.inj ei1
  obtain ⟨nn1, nn2⟩ := and_e hn
  obtain ⟨nn3, nn4⟩ := and_e nn2
  obtain ⟨nn5, nn6⟩ := and_e nn4
  obtain ⟨nn7, nn8⟩ := and_e nn6
  obtain ⟨nn9, nn10⟩ := and_e nn8
  obtain ⟨nn11, nn12⟩ := and_e nn10
  obtain ⟨nn13, nn14⟩ := and_e nn12
  obtain ⟨nn15, nn16⟩ := and_e nn14
  obtain ⟨nn17, nn18⟩ := and_e nn16
  obtain ⟨nn19, nn20⟩ := and_e nn18
  obtain ⟨nn21, nn22⟩ := and_e nn20
  obtain ⟨nn23, nn24⟩ := and_e nn22
  obtain ⟨nn25, nn26⟩ := and_e nn24
  obtain ⟨nn27, nn28⟩ := and_e nn26
  obtain ⟨nn29, nn30⟩ := and_e nn28
  obtain ⟨nn31, nn32⟩ := and_e nn30
  obtain ⟨nn33, nn34⟩ := and_e nn32
  obtain ⟨nn35, nn36⟩ := and_e nn34
  obtain ⟨nn37, nn38⟩ := and_e nn36
  obtain ⟨nn39, nn40⟩ := and_e nn38
  obtain ⟨nn41, nn42⟩ := and_e nn40
  obtain ⟨nn43, nn44⟩ := and_e nn42
  obtain ⟨nn45, nn46⟩ := and_e nn44
  obtain ⟨x0, ev0⟩ := exa_v nn1
  have E0 := Exa.start ev0 nn1
  have S0 := Sta.start ev0 (Or.inr ⟨(hw _ (List.mem_of_getElem? (i := 5) rfl)), (hw _ (List.mem_of_getElem? (i := 6) rfl))⟩)
  have F0 : Fld s s.heap x0 "com/example/hearthlog/hearthlog/Level" "value" "I" (.int (own_val 0)) := Fld.start ((fld_at ev0).symm.trans (eqv_i (Term.int_eval _) nn11))
  obtain ⟨x1, ev1⟩ := exa_v nn17
  have E1 := Exa.start ev1 nn17
  have S1 := Sta.start ev1 (Or.inr ⟨(hw _ (List.mem_of_getElem? (i := 5) rfl)), (hw _ (List.mem_of_getElem? (i := 21) rfl))⟩)
  have F1 : Fld s s.heap x1 "com/example/hearthlog/hearthlog/Level" "value" "I" (.int (own_val 1)) := Fld.start ((fld_at ev1).symm.trans (eqv_i (Term.int_eval _) nn23))
  obtain ⟨x2, ev2⟩ := exa_v nn43
  have E2 := Exa.start ev2 nn43
  have S2 := Sta.start ev2 (Or.inr ⟨(hw _ (List.mem_of_getElem? (i := 5) rfl)), (hw _ (List.mem_of_getElem? (i := 28) rfl))⟩)
  have F2 : Fld s s.heap x2 "com/example/hearthlog/hearthlog/Level" "value" "I" (.int (own_val 2)) := Fld.start ((fld_at ev2).symm.trans (eqv_i (Term.int_eval _) nn46))
  obtain ⟨x3, ev3⟩ := exa_v nn3
  have E3 := Exa.start ev3 nn3
  have S3 := Sta.start ev3 (Or.inr ⟨(hw _ (List.mem_of_getElem? (i := 5) rfl)), (hw _ (List.mem_of_getElem? (i := 8) rfl))⟩)
  have F3 : Fld s s.heap x3 "com/example/hearthlog/hearthlog/Level" "value" "I" (.int (own_val 3)) := Fld.start ((fld_at ev3).symm.trans (eqv_i (Term.int_eval _) nn13))
  obtain ⟨x4, ev4⟩ := exa_v nn25
  have E4 := Exa.start ev4 nn25
  have S4 := Sta.start ev4 (Or.inr ⟨(hw _ (List.mem_of_getElem? (i := 5) rfl)), (hw _ (List.mem_of_getElem? (i := 23) rfl))⟩)
  have F4 : Fld s s.heap x4 "com/example/hearthlog/hearthlog/Level" "value" "I" (.int (own_val 4)) := Fld.start ((fld_at ev4).symm.trans (eqv_i (Term.int_eval _) nn27))
  obtain ⟨x5, ev5⟩ := exa_v nn33
  have E5 := Exa.start ev5 nn33
  have S5 := Sta.start ev5 (Or.inr ⟨(hw _ (List.mem_of_getElem? (i := 5) rfl)), (hw _ (List.mem_of_getElem? (i := 25) rfl))⟩)
  have F5 : Fld s s.heap x5 "com/example/hearthlog/hearthlog/Level" "value" "I" (.int (own_val 5)) := Fld.start ((fld_at ev5).symm.trans (eqv_i (Term.int_eval _) nn37))
  obtain ⟨x6, ev6⟩ := exa_v nn15
  have E6 := Exa.start ev6 nn15
  have S6 := Sta.start ev6 (Or.inr ⟨(hw _ (List.mem_of_getElem? (i := 5) rfl)), (hw _ (List.mem_of_getElem? (i := 19) rfl))⟩)
  have F6 : Fld s s.heap x6 "com/example/hearthlog/hearthlog/Level" "value" "I" (.int (own_val 6)) := Fld.start ((fld_at ev6).symm.trans (eqv_i (Term.int_eval _) nn21))
  obtain ⟨x7, ev7⟩ := exa_v nn5
  have E7 := Exa.start ev7 nn5
  have S7 := Sta.start ev7 (Or.inr ⟨(hw _ (List.mem_of_getElem? (i := 5) rfl)), (hw _ (List.mem_of_getElem? (i := 15) rfl))⟩)
  have F7 : Fld s s.heap x7 "com/example/hearthlog/hearthlog/Level" "value" "I" (.int (own_val 7)) := Fld.start ((fld_at ev7).symm.trans (eqv_i (Term.int_eval _) nn41))
  obtain ⟨n, o, h1, h2, h3, _, L, rfl, ⟨rfl, N, -⟩, hq⟩ := rm0 l s _ hw tables_1 ie it (own_lv x0 x1 x2 x3 x4 x5 x6 x7) s.heap s.heap.size (Nat.le_refl _) S0 S1 S2 S3 S4 S5 S6 S7 (fun _ n hn8 => match n, hn8 with | 0, _ => E0 | 1, _ => E1 | 2, _ => E2 | 3, _ => E3 | 4, _ => E4 | 5, _ => E5 | 6, _ => E6 | 7, _ => E7 | (k + 8), h8 => absurd h8 (by omega)) (fun _ n hn8 => match n, hn8 with | 0, _ => F0 | 1, _ => F1 | 2, _ => F2 | 3, _ => F3 | 4, _ => F4 | 5, _ => F5 | 6, _ => F6 | 7, _ => F7 | (k + 8), h8 => absurd h8 (by omega)) p e ha hc hk s m _ below hf ((Spec.applies_iff_loose hf).mp happ).1 ⟨rfl, State.Warmed39.refl s, rfl⟩ trivial
  refine ⟨n, _, h1, h2, h3, hpost _ _ _ _ _ _ ⟨Cond.after_iff.mpr rfl, Cond.after_iff.mpr (eq_i res_at (Term.int_eval (1)) rfl), trivial⟩ ⟨hq.1, hq.2.1, (hq.2.2.sift fun y hy => Or.inr (N y hy)).mono (by decide) (by decide)⟩⟩
theorem main_1_1 : Claimed_1_1 := comes_1 fun _ _ _ _ _ _ h hF => ⟨h.1, hF⟩
theorem main_1_2 : Claimed_1_2 := comes_1 fun _ _ _ _ _ _ h hF => ⟨h.2.1, hF⟩
end Jvm.Pilot.@@N@@
namespace Jvm.Pilot.@@N@@
open Jvm Jvm.ClassFile Sem Op Lib Jvm.Free Jvm.Stand Jvm.Pilot.@@N@@.Jvm.D
/-! MADE BY PROGRAM (witnessworld.py) out of the Statement's table words and the real class files: 12 classes; the members and pool entries that the words name. The judged class is class 1, her method 2. -/
namespace start1
open Jvm.ClassFile
def u (s : String) : CpInfo := .utf8 (stringToUtf16 s)
/-- a pool by its gaps: so many unusable entries, then the entry; so many at the end -/
def gap : Nat → List CpInfo → List CpInfo
  | 0, r => r
  | n + 1, r => .unusable :: gap n r
def poolList (es : List (Nat × CpInfo)) (last : Nat) : List CpInfo := es.foldr (fun e r => gap e.1 (e.2 :: r)) (gap last [])
def pool (es : List (Nat × CpInfo)) (last : Nat) : Array CpInfo := ⟨poolList es last⟩
def fileOf (pool : Array CpInfo) (this : Nat) (attrs : Array Attribute := #[]) (ms : Array MethodInfo := #[]) (fl : Nat := 33) (sup : Nat := 0) (ifs : Array Nat := #[]) (fds : Array FieldInfo := #[]) : ClassFile where
  minorVersion := 0
  majorVersion := 65
  constantPool := pool
  accessFlags := fl
  thisClass := this
  superClass := sup
  interfaces := ifs
  fields := fds
  methods := ms
  attributes := attrs
def plain (name : String) (sup : Option ClassId) : Class where
  name := name
  kind := .ordinary
  loader := none
  accessFlags := 33
  super := sup
  interfaces := #[]
  cf := none
  fields := #[]
  methods := #[]
  instanceTypes := #[]
  staticTypes := #[]
  resolved := #[]
  callSites := []
  init := .initialized
  statics := none
  mirror := none

def pool0 : Array CpInfo := pool [(5, u "<init>"), (0, u "()V"), (1, .class_ 10), (1, u "java/lang/Object")] 113

def k0m0 : Method := { name := "<init>", desc := "()V", sig := { parameters := [], returnType := none }, accessFlags := 1, code := none }
/-- java/lang/Object -/
def k0 : Class := { plain "java/lang/Object" none with
  accessFlags := 33
  interfaces := #[]
  cf := some (fileOf pool0 8 #[] #[{ accessFlags := 1, nameIndex := 5, descriptorIndex := 6, attributes := #[] }] 33 0 #[] #[])
  fields := #[]
  methods := #[k0m0]
  instanceTypes := #[]
  staticTypes := #[]
  resolved := Array.replicate 124 none
  statics := none }

def pool1 : Array CpInfo := pool [(2, .class_ 4), (1, u "java/lang/Object"), (0, u "<init>"), (0, u "()V"), (0, .fieldref 8 9), (0, .class_ 10), (0, .nameAndType 11 12), (0, u "com/example/hearthlog/hearthlog/Level"), (0, u "ALL"), (0, u "Lcom/example/hearthlog/hearthlog/Level;"), (0, .fieldref 8 14), (0, .nameAndType 15 12), (0, u "TRACE"), (0, .fieldref 8 17), (0, .nameAndType 18 12), (0, u "DEBUG"), (0, .fieldref 8 20), (0, .nameAndType 21 12), (0, u "INFO"), (0, .fieldref 8 23), (0, .nameAndType 24 12), (0, u "WARN"), (0, .fieldref 8 26), (0, .nameAndType 27 12), (0, u "ERROR"), (0, .fieldref 8 29), (0, .nameAndType 30 12), (0, u "FATAL"), (0, .fieldref 8 32), (0, .nameAndType 33 12), (0, u "OFF"), (0, .methodref 35 36), (0, .class_ 37), (0, .nameAndType 38 39), (0, u "com/example/hearthlog/hearthlog/LevelReachesPinLaw"), (0, u "pick"), (0, u "(I)Lcom/example/hearthlog/hearthlog/Level;"), (0, .methodref 8 41), (0, .nameAndType 42 43), (0, u "reaches"), (0, u "(Lcom/example/hearthlog/hearthlog/Level;)Z"), (3, u "law"), (0, u "(II)Z")] 2

def k1m0 : Method := { name := "<init>", desc := "()V", sig := { parameters := [], returnType := none }, accessFlags := 1, code := none }
def k1c1 : Code := { maxStack := 2, maxLocals := 1, code := method_2_code, exceptionTable := #[], attributes := #[] }
def k1m1 : Method := { name := "pick", desc := "(I)Lcom/example/hearthlog/hearthlog/Level;", sig := { parameters := [.int], returnType := some (.object "com/example/hearthlog/hearthlog/Level") }, accessFlags := 10, code := some k1c1 }
def k1c2 : Code := { maxStack := 2, maxLocals := 5, code := code, exceptionTable := #[], attributes := #[] }
def k1m2 : Method := { name := "law", desc := "(II)Z", sig := { parameters := [.int, .int], returnType := some .boolean }, accessFlags := 9, code := some k1c2 }
/-- com/example/hearthlog/hearthlog/LevelReachesPinLaw -/
def k1 : Class := { plain "com/example/hearthlog/hearthlog/LevelReachesPinLaw" (some 0) with
  accessFlags := 49
  interfaces := #[]
  cf := some (fileOf pool1 35 #[] #[{ accessFlags := 1, nameIndex := 5, descriptorIndex := 6, attributes := #[] }, { accessFlags := 10, nameIndex := 38, descriptorIndex := 39, attributes := #[] }, { accessFlags := 9, nameIndex := 47, descriptorIndex := 48, attributes := #[] }] 49 2 #[] #[])
  fields := #[]
  methods := #[k1m0, k1m1, k1m2]
  instanceTypes := #[]
  staticTypes := #[]
  resolved := Array.replicate 51 none
  statics := none }

def pool2 : Array CpInfo := pool [(1, .class_ 2), (0, u "java/lang/constant/Constable"), (0, .class_ 4), (0, u "java/lang/Object")] 6

/-- java/lang/constant/Constable -/
def k2 : Class := { plain "java/lang/constant/Constable" (some 0) with
  accessFlags := 1537
  interfaces := #[]
  cf := some (fileOf pool2 1 #[] #[] 1537 3 #[] #[])
  fields := #[]
  methods := #[]
  instanceTypes := #[]
  staticTypes := #[]
  resolved := Array.replicate 11 none
  statics := none }

def pool3 : Array CpInfo := pool [(1, .class_ 2), (0, u "java/lang/Comparable"), (0, .class_ 4), (0, u "java/lang/Object")] 7

/-- java/lang/Comparable -/
def k3 : Class := { plain "java/lang/Comparable" (some 0) with
  accessFlags := 1537
  interfaces := #[]
  cf := some (fileOf pool3 1 #[] #[] 1537 3 #[] #[])
  fields := #[]
  methods := #[]
  instanceTypes := #[]
  staticTypes := #[]
  resolved := Array.replicate 12 none
  statics := none }

def pool4 : Array CpInfo := pool [(1, .class_ 2), (0, u "java/io/Serializable"), (0, .class_ 4), (0, u "java/lang/Object")] 2

/-- java/io/Serializable -/
def k4 : Class := { plain "java/io/Serializable" (some 0) with
  accessFlags := 1537
  interfaces := #[]
  cf := some (fileOf pool4 1 #[] #[] 1537 3 #[] #[])
  fields := #[]
  methods := #[]
  instanceTypes := #[]
  staticTypes := #[]
  resolved := Array.replicate 7 none
  statics := none }

def pool5 : Array CpInfo := pool [(2, .class_ 4), (1, u "java/lang/Enum"), (0, u "name"), (0, u "Ljava/lang/String;"), (2, u "ordinal"), (0, u "I"), (1, .class_ 14), (1, u "java/lang/Object"), (4, u "hash"), (86, .class_ 108), (1, u "java/lang/Enum$EnumDesc"), (2, .class_ 112), (0, u "java/lang/constant/Constable"), (0, .class_ 114), (0, u "java/lang/Comparable"), (0, .class_ 116), (0, u "java/io/Serializable")] 87

/-- java/lang/Enum -/
def k5 : Class := { plain "java/lang/Enum" (some 0) with
  accessFlags := 1057
  interfaces := #[2, 3, 4]
  cf := some (fileOf pool5 2 #[.nestMembers #[106]] #[] 1057 12 #[111, 113, 115] #[{ accessFlags := 18, nameIndex := 5, descriptorIndex := 6, attributes := #[] }, { accessFlags := 18, nameIndex := 9, descriptorIndex := 10, attributes := #[] }, { accessFlags := 2, nameIndex := 19, descriptorIndex := 10, attributes := #[] }])
  fields := #[{ name := "name", type := (.object "java/lang/String"), accessFlags := 18, slot := 0, constantValue := 0 }, { name := "ordinal", type := .int, accessFlags := 18, slot := 1, constantValue := 0 }, { name := "hash", type := .int, accessFlags := 2, slot := 2, constantValue := 0 }]
  methods := #[]
  instanceTypes := #[(.object "java/lang/String"), .int, .int]
  staticTypes := #[]
  resolved := Array.replicate 204 none
  statics := none }

def pool6 : Array CpInfo := pool [(1, .class_ 2), (0, u "com/example/hearthlog/hearthlog/Level"), (2, u "ALL"), (0, u "Lcom/example/hearthlog/hearthlog/Level;"), (2, u "TRACE"), (2, u "DEBUG"), (2, u "INFO"), (2, u "WARN"), (2, u "ERROR"), (2, u "FATAL"), (0, .fieldref 1 26), (0, .nameAndType 27 6), (0, u "OFF"), (2, u "$VALUES"), (0, u "[Lcom/example/hearthlog/hearthlog/Level;"), (6, .class_ 40), (1, u "java/lang/Enum"), (6, .fieldref 1 48), (0, .nameAndType 49 50), (0, u "value"), (0, u "I"), (62, u "reaches"), (0, u "(Lcom/example/hearthlog/hearthlog/Level;)Z")] 8

def k6c0 : Code := { maxStack := 2, maxLocals := 2, code := prog_25_method_6_code, exceptionTable := #[], attributes := #[] }
def k6m0 : Method := { name := "reaches", desc := "(Lcom/example/hearthlog/hearthlog/Level;)Z", sig := { parameters := [(.object "com/example/hearthlog/hearthlog/Level")], returnType := some .boolean }, accessFlags := 0, code := some k6c0 }
/-- com/example/hearthlog/hearthlog/Level -/
def k6 : Class := { plain "com/example/hearthlog/hearthlog/Level" (some 5) with
  accessFlags := 16433
  interfaces := #[]
  cf := some (fileOf pool6 1 #[] #[{ accessFlags := 0, nameIndex := 113, descriptorIndex := 114, attributes := #[] }] 16433 38 #[] #[{ accessFlags := 16409, nameIndex := 5, descriptorIndex := 6, attributes := #[] }, { accessFlags := 16409, nameIndex := 9, descriptorIndex := 6, attributes := #[] }, { accessFlags := 16409, nameIndex := 12, descriptorIndex := 6, attributes := #[] }, { accessFlags := 16409, nameIndex := 15, descriptorIndex := 6, attributes := #[] }, { accessFlags := 16409, nameIndex := 18, descriptorIndex := 6, attributes := #[] }, { accessFlags := 16409, nameIndex := 21, descriptorIndex := 6, attributes := #[] }, { accessFlags := 16409, nameIndex := 24, descriptorIndex := 6, attributes := #[] }, { accessFlags := 16409, nameIndex := 27, descriptorIndex := 6, attributes := #[] }, { accessFlags := 18, nameIndex := 49, descriptorIndex := 50, attributes := #[] }, { accessFlags := 4122, nameIndex := 30, descriptorIndex := 31, attributes := #[] }])
  fields := #[{ name := "ALL", type := (.object "com/example/hearthlog/hearthlog/Level"), accessFlags := 16409, slot := 0, constantValue := 0 }, { name := "TRACE", type := (.object "com/example/hearthlog/hearthlog/Level"), accessFlags := 16409, slot := 1, constantValue := 0 }, { name := "DEBUG", type := (.object "com/example/hearthlog/hearthlog/Level"), accessFlags := 16409, slot := 2, constantValue := 0 }, { name := "INFO", type := (.object "com/example/hearthlog/hearthlog/Level"), accessFlags := 16409, slot := 3, constantValue := 0 }, { name := "WARN", type := (.object "com/example/hearthlog/hearthlog/Level"), accessFlags := 16409, slot := 4, constantValue := 0 }, { name := "ERROR", type := (.object "com/example/hearthlog/hearthlog/Level"), accessFlags := 16409, slot := 5, constantValue := 0 }, { name := "FATAL", type := (.object "com/example/hearthlog/hearthlog/Level"), accessFlags := 16409, slot := 6, constantValue := 0 }, { name := "OFF", type := (.object "com/example/hearthlog/hearthlog/Level"), accessFlags := 16409, slot := 7, constantValue := 0 }, { name := "value", type := .int, accessFlags := 18, slot := 3, constantValue := 0 }, { name := "$VALUES", type := (.array (.object "com/example/hearthlog/hearthlog/Level")), accessFlags := 4122, slot := 8, constantValue := 0 }]
  methods := #[k6m0]
  instanceTypes := #[(.object "java/lang/String"), .int, .int, .int]
  staticTypes := #[(.object "com/example/hearthlog/hearthlog/Level"), (.object "com/example/hearthlog/hearthlog/Level"), (.object "com/example/hearthlog/hearthlog/Level"), (.object "com/example/hearthlog/hearthlog/Level"), (.object "com/example/hearthlog/hearthlog/Level"), (.object "com/example/hearthlog/hearthlog/Level"), (.object "com/example/hearthlog/hearthlog/Level"), (.object "com/example/hearthlog/hearthlog/Level"), (.array (.object "com/example/hearthlog/hearthlog/Level"))]
  resolved := Array.replicate 123 none
  statics := some 0 }

def pool7 : Array CpInfo := pool [(1, u "java/lang/Cloneable"), (0, .class_ 1), (0, u "java/lang/Object"), (0, .class_ 3)] 3

/-- java/lang/Cloneable -/
def k7 : Class := { plain "java/lang/Cloneable" (some 0) with
  accessFlags := 1537
  interfaces := #[]
  cf := some (fileOf pool7 2 #[] #[] 1537 4 #[] #[])
  fields := #[]
  methods := #[]
  instanceTypes := #[]
  staticTypes := #[]
  resolved := Array.replicate 8 none
  statics := none }

/-- the primitive byte -/
def k8 : Class := { plain "byte" none with kind := .primitive 'B', accessFlags := 0x411 }
/-- [B -/
def k9 : Class := { plain "[B" (some 0) with kind := .array 8 .byte, interfaces := #[7, 4], accessFlags := 1041 }

/-- the primitive int -/
def k10 : Class := { plain "int" none with kind := .primitive 'I', accessFlags := 0x411 }
/-- [I -/
def k11 : Class := { plain "[I" (some 0) with kind := .array 10 .int, interfaces := #[7, 4], accessFlags := 1041 }

def heap : Heap := #[{ cls := 6, slots := #[.ref 1, .ref 2, .ref 3, .ref 4, .ref 5, .ref 6, .ref 7, .ref 8, .null], vm := .statics 6 },
  { cls := 6, slots := #[.null, .int 0, .int 0, .int (-2147483648)], vm := .none },
  { cls := 6, slots := #[.null, .int 1, .int 0, .int 5000], vm := .none },
  { cls := 6, slots := #[.null, .int 2, .int 0, .int 10000], vm := .none },
  { cls := 6, slots := #[.null, .int 3, .int 0, .int 20000], vm := .none },
  { cls := 6, slots := #[.null, .int 4, .int 0, .int 30000], vm := .none },
  { cls := 6, slots := #[.null, .int 5, .int 0, .int 40000], vm := .none },
  { cls := 6, slots := #[.null, .int 6, .int 0, .int 50000], vm := .none },
  { cls := 6, slots := #[.null, .int 7, .int 0, .int 2147483647], vm := .none }]
def classes : Array Class := #[k0, k1, k2, k3, k4, k5, k6, k7, k8, k9, k10, k11]
def interned : List (Array UInt16 × Addr) := []
def slotsUsed : Nat := 41
def theMethod : MethodId := ⟨1, 2⟩
def args0 : Array Value := #[.int 3, .int 2]
def aboutOver (below : List Frame) : State where
  vm := { classes := classes, interned := interned.toArray }
  heap := heap
  slotsUsed := slotsUsed
  threads := #[{ frames := .invoking theMethod args0 :: below }]
def below0 : List Frame := [.native { method := ⟨0, 0⟩, args := #[] }]
def about1 : State := aboutOver below0
def p0 : Program := .bare "" "" ""
def e0 : Env := launch0.env 0 0 0
theorem w_frames : about1.frames = Frame.invoking theMethod args0 :: below0 := rfl
set_option maxRecDepth 65536 in
theorem w_args : argsFit about1.vm theMethod args0 = true := by decide +kernel
set_option maxRecDepth 65536 in
theorem w_heap : heapFits about1 = true := by decide +kernel
set_option maxRecDepth 65536 in
theorem w_runnable : about1.curStatus? = some .runnable := by decide +kernel
set_option maxRecDepth 65536 in
theorem w_alone : about1.alone = true := by decide +kernel
set_option maxRecDepth 65536 in
theorem w_named : about1.methodNamed? x = some theMethod := by decide +kernel
set_option maxRecDepth 65536 in
theorem w_hears : about1.hears theMethod below0 = true := by decide +kernel
set_option maxRecDepth 65536 in
theorem w_ripe : about1.ripe theMethod args0 below0 = true := by decide +kernel
theorem w_running : about1.status = .running := rfl
set_option maxRecDepth 65536 in
theorem w_room : about1.hasRoom e0.platform room_1 = true :=
  launch0.hasRoom_least _ room_1 (by decide +kernel) (by decide +kernel) (by decide +kernel) (by decide +kernel) (by decide +kernel) (by decide +kernel)
theorem allAtoms_all (ts : List Jvm.Cond) (a : Array Jvm.Value) (st : Jvm.State) : (allAtoms ts).before a st = ts.all (fun c => c.before a st) := by
  induction ts with
  | nil => rfl
  | cons c t ih =>
    show (Jvm.Cond.and c (allAtoms t)).before a st = _
    rw [Jvm.Cond.before_and, ih, List.all_cons]
def words1 : List Jvm.Cond := Jvm.Cond.code x code maxLocals ret :: tables_1
/-- a 'code' word, met by the world's own term for the bytes: nothing is compared byte by byte -/
theorem code_word {y : MethodName} {bytes : ByteArray} {mx : Nat} {rt : Option FieldType} {a : Array Value} {s : State} {m : MethodId} {meth : Method} {c : Code} (h1 : s.methodNamed? y = some m) (h2 : s.vm.method? m = some meth) (h3 : meth.code = some c) (h4 : c.code = bytes)
    (h5 : (c.maxLocals == mx && c.exceptionTable.isEmpty && decide (c.maxStack ≤ mostOperands) && decide (meth.sig.returnType = rt) && !meth.locks && decide (parseMethodDescriptor y.desc = some meth.sig)) = true) : (Jvm.Cond.code y bytes mx rt).before a s = true := by
  simp only [Bool.and_eq_true, beq_iff_eq, Bool.not_eq_true', decide_eq_true_eq] at h5
  obtain ⟨⟨⟨⟨⟨g1, g2⟩, g3⟩, g4⟩, g5⟩, g6⟩ := h5
  simp [Cond.before, Cond.holds, Cond.value, h1, h2, h3, h4, g1, g2, g3, g4, g5, g6]
def isCode : Jvm.Cond → Bool
  | .code _ _ _ _ => true
  | _ => false
theorem all_split {L : List Jvm.Cond} {P : Jvm.Cond → Bool} (h1 : L.all (fun c => isCode c || P c) = true) (h2 : ∀ c ∈ L.filter isCode, P c = true) : L.all P = true := by
  refine List.all_eq_true.mpr fun c hc => ?_
  have h := List.all_eq_true.mp h1 c hc
  rcases Bool.eq_false_or_eq_true (isCode c) with hi | hi
  · exact h2 c (List.mem_filter.mpr ⟨hc, hi⟩)
  · simpa [hi] using h
set_option maxRecDepth 65536 in
theorem w_c0 : (Jvm.Cond.code x code maxLocals ret).before args0 about1 = true := code_word (m := ⟨1, 2⟩) (meth := k1m2) (c := k1c2) (by decide +kernel) rfl rfl rfl (by decide +kernel)
set_option maxRecDepth 65536 in
theorem w_c1 : (Jvm.Cond.code ({ cls := "com/example/hearthlog/hearthlog/LevelReachesPinLaw", name := "pick", desc := "(I)Lcom/example/hearthlog/hearthlog/Level;" } : Jvm.MethodName) method_2_code (1 : Nat) (Option.some (Jvm.ClassFile.FieldType.object "com/example/hearthlog/hearthlog/Level"))).before args0 about1 = true := code_word (m := ⟨1, 1⟩) (meth := k1m1) (c := k1c1) (by decide +kernel) rfl rfl rfl (by decide +kernel)
set_option maxRecDepth 65536 in
theorem w_c2 : (Jvm.Cond.code ({ cls := "com/example/hearthlog/hearthlog/Level", name := "reaches", desc := "(Lcom/example/hearthlog/hearthlog/Level;)Z" } : Jvm.MethodName) prog_25_method_6_code (2 : Nat) (Option.some Jvm.ClassFile.FieldType.boolean)).before args0 about1 = true := code_word (m := ⟨6, 0⟩) (meth := k6m0) (c := k6c0) (by decide +kernel) rfl rfl rfl (by decide +kernel)
def codes1 : List Jvm.Cond := [Jvm.Cond.code x code maxLocals ret, Jvm.Cond.code ({ cls := "com/example/hearthlog/hearthlog/LevelReachesPinLaw", name := "pick", desc := "(I)Lcom/example/hearthlog/hearthlog/Level;" } : Jvm.MethodName) method_2_code (1 : Nat) (Option.some (Jvm.ClassFile.FieldType.object "com/example/hearthlog/hearthlog/Level")), Jvm.Cond.code ({ cls := "com/example/hearthlog/hearthlog/Level", name := "reaches", desc := "(Lcom/example/hearthlog/hearthlog/Level;)Z" } : Jvm.MethodName) prog_25_method_6_code (2 : Nat) (Option.some Jvm.ClassFile.FieldType.boolean)]
set_option maxRecDepth 65536 in
theorem codes_eq : words1.filter isCode = codes1 := rfl
theorem w_codes : ∀ c ∈ words1.filter isCode, c.before args0 about1 = true := by
  rw [codes_eq]
  intro c hc
  simp only [codes1, List.mem_cons, List.not_mem_nil, or_false] at hc
  rcases hc with rfl | rfl | rfl
  · exact w_c0
  · exact w_c1
  · exact w_c2
set_option maxRecDepth 65536 in
theorem w_t1 : (words1.take 24).all (fun c => isCode c || c.before args0 about1) = true := by decide +kernel
set_option maxRecDepth 65536 in
theorem w_t2 : (words1.drop 24).all (fun c => isCode c || c.before args0 about1) = true := by decide +kernel
theorem w_tables : (allAtoms (Jvm.Cond.code x code maxLocals ret :: tables_1)).before args0 about1 = true := by
  rw [allAtoms_all]
  show words1.all (fun c => c.before args0 about1) = true
  refine all_split ?_ w_codes
  rw [← List.take_append_drop 24 words1, List.all_append, w_t1, w_t2]
  rfl
set_option maxRecDepth 65536 in
theorem w_case : (Jvm.Cond.and given_1 narrow_1).before args0 about1 = true := by decide +kernel
theorem w_applies : (headSpec (Jvm.Cond.code x code maxLocals ret :: tables_1) room_1).applies x e0.platform about1 = true :=
  (Spec.applies_iff w_frames).mpr ⟨w_running, w_runnable, w_alone, w_named, w_hears, w_ripe, w_room, w_tables⟩
theorem atStart : AtStart classFile x code maxLocals ret World_1 tables_1 room_1 Calls_1 rest_1 Pre_1 launch0 p0 e0 about1 theMethod args0 below0 :=
  ⟨lists_1, trivial, launch0.admits_env _ _ _, launch0.least_env, fairChoices_fair.cas, fairChoices_fair.clock, w_frames, w_args, w_heap, w_applies, trivial, trivial, w_case⟩
end start1
theorem witness_1 : WitnessClaimed_1 := ⟨start1.p0, start1.e0, start1.about1, start1.theMethod, start1.args0, start1.below0, start1.atStart⟩
end Jvm.Pilot.@@N@@
