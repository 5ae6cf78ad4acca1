import JvmDerived
import JvmDerived.Pilot.@@N@@Statement
import JvmDerived.Pilot.@@N@@Code
set_option linter.unusedVariables false
set_option linter.unusedSimpArgs false
namespace Jvm.RoadKit
open Sem ClassFile Op Lib Jvm.Stand Jvm.Free Jvm.LawKit
section OwnGo
variable {p : Program} {l : Launch} {e : Env} {R : Room} {s : State} {m : MethodId} {args : Array Value} {below : List Frame} {meth : Method} {c : Code} {T T' : State} {locs : List Loc} {cells slots kc ks : Nat} {Q : Option Value → Heap → List Loc → Prop} {f f' : JFrame} {h : Heap}
/-- from the state T with the top frame f the body comes to its end, and what it leaves meets Q -/
def Go (p : Program) (e : Env) (below : List Frame) (s : State) (kc ks : Nat) (Q : Option Value → Heap → List Loc → Prop) (T : State) (f : JFrame) : Prop :=
  ∃ (s₂ : State) (o : Outcome), Steps p.tables e below (T.setTop f) s₂ ∧ s₂.status = .running ∧ Ended s₂ below o ∧ ∃ v L, o = .returned v ∧ Q v s₂.heap L ∧ FrameEnd s o s₂ L kc ks
theorem Go.step (h : ∀ target, Steps p.tables e below (T'.setTop f') target → Steps p.tables e below (T.setTop f) target) (k : Go p e below s kc ks Q T' f') : Go p e below s kc ks Q T f := by
  obtain ⟨s₂, o, h1, r⟩ := k
  exact ⟨s₂, o, h _ h1, r⟩
theorem Go.trans (h : Steps p.tables e below (T.setTop f) (T'.setTop f')) (k : Go p e below s kc ks Q T' f') : Go p e below s kc ks Q T f := by
  obtain ⟨s₂, o, h1, r⟩ := k
  exact ⟨s₂, o, h.trans h1, r⟩
theorem Go.cast (q : f = f') (k : Go p e below s kc ks Q T f') : Go p e below s kc ks Q T f := q ▸ k
theorem Go.enter {g : JFrame} {s₁ : State} (k : Go p e below s kc ks Q s₁ f) (q : g = f) :
    ∃ s₂ o, Steps p.tables e below (s₁.setTop g) s₂ ∧ s₂.status = .running ∧ Ended s₂ below o ∧ ∃ v L, o = .returned v ∧ Q v s₂.heap L ∧ FrameEnd s o s₂ L kc ks := by
  subst q; exact k
theorem Go.ret (X : Stand p l e R s m args below meth c T locs cells slots) (hx : p.tables.exec = Jvm.exec) {pc : Nat} {Ls : Array Slot} {w : Value} {t : FieldType} {i : Instr} {rest : List Value} (hret : meth.sig.returnType = some t) (hlk : meth.locks = false) (hn : narrow t w = w)
    (hi : (i = .ireturn ∧ (t = .int ∨ t = .boolean ∨ t = .byte ∨ t = .char ∨ t = .short) ∧ ∃ z, w = .int z) ∨ (i = .lreturn ∧ t = .long ∧ ∃ z, w = .long z) ∨ (i = .dreturn ∧ t = .double ∧ ∃ z, w = .double z) ∨ (i = .freturn ∧ t = .float ∧ ∃ z, w = .float z) ∨ (i = .areturn ∧ t.isReference = true ∧ w.isRef = true))
    (hd : decode c.code pc = .ok (i, 1)) (eT : T.heap = h) (hc : cells ≤ kc) (hs : slots ≤ ks) (hQ : Q (some w) h locs) : Go p e below s kc ks Q T (mkF m pc Ls (w :: rest)) := by
  obtain ⟨fs, hr, hrun, hended, hW, hsame⟩ := X.leave (v := some w) (fun q => by rw [hret] at q; cases q) hlk
  exact ⟨_, _, retOut X hx hret hn hi hd hr, hrun, hended, _, _, rfl, (by subst eT; exact hQ), ⟨_, rfl⟩, hW, hsame.mono hc hs⟩
theorem Go.retI (X : Stand p l e R s m args below meth c T locs cells slots) (hx : p.tables.exec = Jvm.exec) {pc : Nat} {Ls : Array Slot} {z : Int32} {rest : List Value} (hret : meth.sig.returnType = some .int) (hlk : meth.locks = false)
    (hd : decode c.code pc = .ok (.ireturn, 1)) (eT : T.heap = h) (hc : cells ≤ kc) (hs : slots ≤ ks) (hQ : Q (some (.int z)) h locs) : Go p e below s kc ks Q T (mkF m pc Ls (.int z :: rest)) :=
  Go.ret X hx hret hlk rfl (Or.inl ⟨rfl, Or.inl rfl, _, rfl⟩) hd eT hc hs hQ
theorem Go.retJ (X : Stand p l e R s m args below meth c T locs cells slots) (hx : p.tables.exec = Jvm.exec) {pc : Nat} {Ls : Array Slot} {z : Int64} {rest : List Value} (hret : meth.sig.returnType = some .long) (hlk : meth.locks = false)
    (hd : decode c.code pc = .ok (.lreturn, 1)) (eT : T.heap = h) (hc : cells ≤ kc) (hs : slots ≤ ks) (hQ : Q (some (.long z)) h locs) : Go p e below s kc ks Q T (mkF m pc Ls (.long z :: rest)) :=
  Go.ret X hx hret hlk rfl (Or.inr (Or.inl ⟨rfl, rfl, _, rfl⟩)) hd eT hc hs hQ
theorem Go.retA (X : Stand p l e R s m args below meth c T locs cells slots) (hx : p.tables.exec = Jvm.exec) {pc : Nat} {Ls : Array Slot} {w : Value} {t : FieldType} {rest : List Value} (hret : meth.sig.returnType = some t) (hlk : meth.locks = false) (ht : t.isReference = true) (hv : w.isRef = true)
    (hd : decode c.code pc = .ok (.areturn, 1)) (eT : T.heap = h) (hc : cells ≤ kc) (hs : slots ≤ ks) (hQ : Q (some w) h locs) : Go p e below s kc ks Q T (mkF m pc Ls (w :: rest)) :=
  Go.ret X hx hret hlk (by cases t <;> first | (cases ht; done) | (cases w <;> first | (cases hv; done) | rfl)) (Or.inr (Or.inr (Or.inr (Or.inr ⟨rfl, ht, hv⟩)))) hd eT hc hs hQ
theorem Go.retN (X : Stand p l e R s m args below meth c T locs cells slots) (hx : p.tables.exec = Jvm.exec) {pc : Nat} {Ls : Array Slot} {z : Int32} {t : FieldType} {rest : List Value} (hret : meth.sig.returnType = some t) (hlk : meth.locks = false) (ht : t = .boolean ∨ t = .byte ∨ t = .char ∨ t = .short)
    (hd : decode c.code pc = .ok (.ireturn, 1)) (eT : T.heap = h) (hc : cells ≤ kc) (hs : slots ≤ ks) (hQ : Q (some (.int (nar t z))) h locs) : Go p e below s kc ks Q T (mkF m pc Ls (.int z :: rest)) := by
  obtain ⟨fs, hr, hrun, hended, hW, hsame⟩ := X.leave (v := some (.int (nar t z))) (fun q => by rw [hret] at q; cases q) hlk
  exact ⟨_, _, Jvm.RoadKit.retN X hx hret ht hd hr, hrun, hended, _, _, rfl, (by subst eT; exact hQ), ⟨_, rfl⟩, hW, hsame.mono hc hs⟩
theorem Go.ret0 (X : Stand p l e R s m args below meth c T locs cells slots) (hx : p.tables.exec = Jvm.exec) {pc : Nat} {Ls : Array Slot} (hret : meth.sig.returnType = none) (hlk : meth.locks = false)
    (hd : decode c.code pc = .ok (.return_, 1)) (eT : T.heap = h) (hc : cells ≤ kc) (hs : slots ≤ ks) (hQ : Q none h locs) : Go p e below s kc ks Q T (mkF m pc Ls []) := by
  obtain ⟨fs, hr, hrun, hended, hW, hsame⟩ := X.leave (v := none) (fun _ => rfl) hlk
  exact ⟨_, _, X.returnOut hx hret hd hr, hrun, hended, _, _, rfl, (by subst eT; exact hQ), ⟨_, rfl⟩, hW, hsame.mono hc hs⟩
theorem own_selp {args' : Array Value} {y : MethodName} {n : Nat} (wi : (Cond.instantiable y.cls n).before args' s = true) (hpriv : s.PrivateAt y) (hinst : (Cond.instanceMethod y).before args' s = true) (hy : y.cls ≠ "java/lang/invoke/MethodHandle" ∧ y.cls ≠ "java/lang/invoke/VarHandle") : (Cond.selects y.cls y y).before args' s = true := by
  obtain ⟨c, k, h1, h2, -, h4, -⟩ := Cond.instantiable_spec wi
  exact selects_self_of_private h1 h2 (by simp only [Bool.or_eq_false_iff] at h4; exact h4.1) hpriv hinst hy
theorem own_mvMN {Z : State} {a0 args' : Array Value} {own host : String} {y : MethodName} {index : Nat} (hZ : Z.Warmed39 s.vm) (w : (Cond.methodLinkNest own index y host).before a0 Z = true) : (Cond.methodLinkNest own index y host).before args' s = true := (Cond.methodLinkNest_wide hZ w :)
theorem own_nar01 {z : Int32} (h : z = 0 ∨ z = 1) : nar .boolean z = z := by rcases h with rfl | rfl <;> decide
end OwnGo
end Jvm.RoadKit
namespace Jvm.Pilot.@@N@@
open Jvm Jvm.ClassFile Sem Op Lib Jvm.Free Jvm.Stand Jvm.LawKit Jvm.RoadKit Bundle Jvm.Pilot.@@N@@.Jvm.D
def own_after (a b : Int64) : Int64 := if (9223372036854775807 : Int64) - a < b then 9223372036854775807 else a + b
def own_max (a b : Int64) : Int64 := if a < b then b else a
theorem d1_0 : decode prog_26_method_8_code 0 = .ok (.lload_n 2, 1) := by decide +kernel
theorem d1_1 : decode prog_26_method_8_code 1 = .ok (.ldc2_w 143, 3) := by decide +kernel
theorem d1_4 : decode prog_26_method_8_code 4 = .ok (.lload_n 0, 1) := by decide +kernel
theorem d1_5 : decode prog_26_method_8_code 5 = .ok (.lsub, 1) := by decide +kernel
theorem d1_6 : decode prog_26_method_8_code 6 = .ok (.lcmp, 1) := by decide +kernel
theorem d1_7 : decode prog_26_method_8_code 7 = .ok (.ifCond .le 9, 3) := by decide +kernel
theorem d1_10 : decode prog_26_method_8_code 10 = .ok (.ldc2_w 143, 3) := by decide +kernel
theorem d1_13 : decode prog_26_method_8_code 13 = .ok (.goto 6, 3) := by decide +kernel
theorem d1_16 : decode prog_26_method_8_code 16 = .ok (.lload_n 0, 1) := by decide +kernel
theorem d1_17 : decode prog_26_method_8_code 17 = .ok (.lload_n 2, 1) := by decide +kernel
theorem d1_18 : decode prog_26_method_8_code 18 = .ok (.ladd, 1) := by decide +kernel
theorem d1_19 : decode prog_26_method_8_code 19 = .ok (.lreturn, 1) := by decide +kernel
theorem pn_com_example_moving_ceiling_movingceiling_model_OverloadModel : plainName "com/example/moving_ceiling/movingceiling/model/OverloadModel" = true := by first | (simp [plainName, overriddenIn]; done) | decide +kernel
theorem ef_rm1 (m : MethodId) (ja : Int64) (jb : Int64) : entryFrame m #[(.long ja), (.long jb)] 4 = mkF m 0 #[.val (.long ja), .second, .val (.long jb), .second] [] := by first | (simp [entryFrame, mkF, argsToLocals, Value.category]; done) | rfl
def Q_rm1 (Z : State) (ja : Int64) (jb : Int64) (h0 : Heap) (n0 : Nat) (v : Option Value) (h : Heap) (L : List Loc) : Prop := (v = some (.long (own_after ja jb))) ∧ (Fr n0 L) ∧ (h = h0)
set_option maxRecDepth 65536 in
set_option maxHeartbeats 40000000 in
theorem rm1 (l : Launch) (Z : State) (a0 : Array Value) (hw : ∀ d ∈ tables_1, d.before a0 Z = true) (ws : List Jvm.Cond) (ja : Int64) (jb : Int64) (h0 : Heap) (n0 : Nat) (Z0 : n0 ≤ h0.size) :
    MetFree l (⟨"com/example/moving_ceiling/movingceiling/model/OverloadModel", "after", "(JJ)J"⟩ : MethodName) (head1 (Jvm.Cond.code (⟨"com/example/moving_ceiling/movingceiling/model/OverloadModel", "after", "(JJ)J"⟩ : MethodName) prog_26_method_8_code 4 (some .long) :: ws) ({ frames := 0, cells := 0, slots := 0, locals := 0 } : Room)) (fun aA U => aA = #[(.long ja), (.long jb)] ∧ Z.Warmed39 U.vm ∧ U.heap = h0) (fun _ _ _ _ _ => True) (fun _ U o U' => ∃ v L, o = .returned v ∧ Q_rm1 Z ja jb h0 n0 v U'.heap L ∧ FrameEnd U o U' L ({ frames := 0, cells := 0, slots := 0, locals := 0 } : Room).cells ({ frames := 0, cells := 0, slots := 0, locals := 0 } : Room).slots) := by
  refine MetFree.of_bodySF (plainFor_of_name pn_com_example_moving_ceiling_movingceiling_model_OverloadModel) hisR ?_
  intro p e s m args below meth c s₁ Bd hml0 hP hK
  obtain ⟨rfl, hZ, hh⟩ := hP
  have hx := Bd.exec
  have hby := Bd.bytes
  have hml : c.maxLocals = 4 := hml0
  have hown : s.vm.findClass "com/example/moving_ceiling/movingceiling/model/OverloadModel" = some m.cls := findClass_of_methodNamed Bd.named
  have hnm := (name_of_methodNamed Bd.named Bd.method).1
  have hret := Bd.returns
  have hlk : meth.locks = false := BodyLoose.notSynchronized Bd
  have X0 : Stand p l e ({ frames := 0, cells := 0, slots := 0, locals := 0 } : Room) s m #[(.long ja), (.long jb)] below meth c s₁ [] 0 0 := Stand.of_body Bd
  have e0 : s₁.heap = h0 := by rw [← hh, Bd.state]; rfl
  have N0 := Fr.nil n0
  suffices hgo : Go p e below s ({ frames := 0, cells := 0, slots := 0, locals := 0 } : Room).cells ({ frames := 0, cells := 0, slots := 0, locals := 0 } : Room).slots (Q_rm1 Z ja jb h0 n0) s₁ (mkF m 0 #[.val (.long ja), .second, .val (.long jb), .second] []) from hgo.enter (ef_rm1 m ja jb)
  refine Go.step (fun _ k => XS.lloadN X0.here hx rfl (hb hby d1_0) rfl k) ?_
  show Go _ _ _ _ _ _ _ s₁ (mkF m 1 #[.val (.long ja), .second, .val (.long jb), .second] [(.long jb)])
  refine Go.step (X0.ldc2Long hx hown (mvT hZ (hw _ (List.mem_of_getElem? (i := 5) rfl))) (g := (mkF m 1 #[.val (.long ja), .second, .val (.long jb), .second] [(.long jb)])) rfl (hb hby d1_1)) ?_
  show Go _ _ _ _ _ _ _ s₁ (mkF m 4 #[.val (.long ja), .second, .val (.long jb), .second] [(.long (9223372036854775807 : Int64)), (.long jb)])
  refine Go.step (fun _ k => XS.lloadN X0.here hx rfl (hb hby d1_4) rfl k) ?_
  show Go _ _ _ _ _ _ _ s₁ (mkF m 5 #[.val (.long ja), .second, .val (.long jb), .second] [(.long ja), (.long (9223372036854775807 : Int64)), (.long jb)])
  refine Go.step (fun _ k => XS.lsub X0.here hx rfl (hb hby d1_5) rfl k) ?_
  show Go _ _ _ _ _ _ _ s₁ (mkF m 6 #[.val (.long ja), .second, .val (.long jb), .second] [(.long ((9223372036854775807 : Int64) - ja)), (.long jb)])
  refine Go.step (fun _ k => XS.lcmp X0.here hx rfl (hb hby d1_6) rfl k) ?_
  show Go _ _ _ _ _ _ _ s₁ (mkF m 7 #[.val (.long ja), .second, .val (.long jb), .second] [(.int (lcmpW jb ((9223372036854775807 : Int64) - ja)))])
  by_cases hc7_1 : ((9223372036854775807 : Int64) - ja) < jb
  · refine Go.step (fun _ k => XS.ifNo X0.here hx rfl (hb hby d1_7) rfl ((if0 _ _).trans (tlt ((lw_gt _ _).mpr hc7_1)).2.2.2) k) ?_
    show Go _ _ _ _ _ _ _ s₁ (mkF m 10 #[.val (.long ja), .second, .val (.long jb), .second] [])
    refine Go.step (X0.ldc2Long hx hown (mvT hZ (hw _ (List.mem_of_getElem? (i := 5) rfl))) (g := (mkF m 10 #[.val (.long ja), .second, .val (.long jb), .second] [])) rfl (hb hby d1_10)) ?_
    show Go _ _ _ _ _ _ _ s₁ (mkF m 13 #[.val (.long ja), .second, .val (.long jb), .second] [(.long (9223372036854775807 : Int64))])
    refine Go.step (fun _ k => XS.goto X0.here hx rfl (pc0 := 13) (pc' := 19) rfl (hb hby d1_13) (by decide) (by decide) k) ?_
    show Go _ _ _ _ _ _ _ s₁ (mkF m 19 #[.val (.long ja), .second, .val (.long jb), .second] [(.long (9223372036854775807 : Int64))])
    exact Go.retJ X0 hx hret hlk (hb hby d1_19) e0 (by decide) (by decide) ⟨(congrArg (fun z => some (Value.long z)) (if_pos hc7_1).symm), N0, rfl⟩
  · refine Go.step (fun _ k => XS.ifYes X0.here hx rfl (pc0 := 7) (pc' := 16) rfl (hb hby d1_7) rfl ((if0 _ _).trans (flt (mt (lw_gt _ _).mp hc7_1)).2.2.2) (by decide) (by decide) k) ?_
    show Go _ _ _ _ _ _ _ s₁ (mkF m 16 #[.val (.long ja), .second, .val (.long jb), .second] [])
    refine Go.step (fun _ k => XS.lloadN X0.here hx rfl (hb hby d1_16) rfl k) ?_
    show Go _ _ _ _ _ _ _ s₁ (mkF m 17 #[.val (.long ja), .second, .val (.long jb), .second] [(.long ja)])
    refine Go.step (fun _ k => XS.lloadN X0.here hx rfl (hb hby d1_17) rfl k) ?_
    show Go _ _ _ _ _ _ _ s₁ (mkF m 18 #[.val (.long ja), .second, .val (.long jb), .second] [(.long jb), (.long ja)])
    refine Go.step (fun _ k => XS.ladd X0.here hx rfl (hb hby d1_18) rfl k) ?_
    show Go _ _ _ _ _ _ _ s₁ (mkF m 19 #[.val (.long ja), .second, .val (.long jb), .second] [(.long (ja + jb))])
    exact Go.retJ X0 hx hret hlk (hb hby d1_19) e0 (by decide) (by decide) ⟨(congrArg (fun z => some (Value.long z)) (if_neg hc7_1).symm), N0, rfl⟩
theorem d2_0 : decode jdk_29_method_66_code 0 = .ok (.lload_n 0, 1) := by decide +kernel
theorem d2_1 : decode jdk_29_method_66_code 1 = .ok (.lload_n 2, 1) := by decide +kernel
theorem d2_2 : decode jdk_29_method_66_code 2 = .ok (.lcmp, 1) := by decide +kernel
theorem d2_3 : decode jdk_29_method_66_code 3 = .ok (.ifCond .lt 7, 3) := by decide +kernel
theorem d2_6 : decode jdk_29_method_66_code 6 = .ok (.lload_n 0, 1) := by decide +kernel
theorem d2_7 : decode jdk_29_method_66_code 7 = .ok (.goto 4, 3) := by decide +kernel
theorem d2_10 : decode jdk_29_method_66_code 10 = .ok (.lload_n 2, 1) := by decide +kernel
theorem d2_11 : decode jdk_29_method_66_code 11 = .ok (.lreturn, 1) := by decide +kernel
theorem ef_rm2 (m : MethodId) (ja : Int64) (jb : Int64) : entryFrame m #[(.long ja), (.long jb)] 4 = mkF m 0 #[.val (.long ja), .second, .val (.long jb), .second] [] := by first | (simp [entryFrame, mkF, argsToLocals, Value.category]; done) | rfl
def Q_rm2 (Z : State) (ja : Int64) (jb : Int64) (h0 : Heap) (n0 : Nat) (v : Option Value) (h : Heap) (L : List Loc) : Prop := (v = some (.long (own_max ja jb))) ∧ (Fr n0 L) ∧ (h = h0)
set_option maxRecDepth 65536 in
set_option maxHeartbeats 40000000 in
theorem rm2 (l : Launch) (Z : State) (a0 : Array Value) (hw : ∀ d ∈ tables_1, d.before a0 Z = true) (ws : List Jvm.Cond) (ja : Int64) (jb : Int64) (h0 : Heap) (n0 : Nat) (Z0 : n0 ≤ h0.size) :
    MetFree l (⟨"java/lang/Math", "max", "(JJ)J"⟩ : MethodName) (head1 (Jvm.Cond.code (⟨"java/lang/Math", "max", "(JJ)J"⟩ : MethodName) jdk_29_method_66_code 4 (some .long) :: ws) ({ frames := 0, cells := 0, slots := 0, locals := 0 } : Room)) (fun aA U => aA = #[(.long ja), (.long jb)] ∧ Z.Warmed39 U.vm ∧ U.heap = h0) (fun _ _ _ _ _ => True) (fun _ U o U' => ∃ v L, o = .returned v ∧ Q_rm2 Z ja jb h0 n0 v U'.heap L ∧ FrameEnd U o U' L ({ frames := 0, cells := 0, slots := 0, locals := 0 } : Room).cells ({ frames := 0, cells := 0, slots := 0, locals := 0 } : Room).slots) := by
  refine MetFree.of_bodySF (Jvm.Free.JP.mathPlain rfl (by decide +kernel)) hisR ?_
  intro p e s m args below meth c s₁ Bd hml0 hP hK
  obtain ⟨rfl, hZ, hh⟩ := hP
  have hx := Bd.exec
  have hby := Bd.bytes
  have hml : c.maxLocals = 4 := hml0
  have hown : s.vm.findClass "java/lang/Math" = some m.cls := findClass_of_methodNamed Bd.named
  have hnm := (name_of_methodNamed Bd.named Bd.method).1
  have hret := Bd.returns
  have hlk : meth.locks = false := BodyLoose.notSynchronized Bd
  have X0 : Stand p l e ({ frames := 0, cells := 0, slots := 0, locals := 0 } : Room) s m #[(.long ja), (.long jb)] below meth c s₁ [] 0 0 := Stand.of_body Bd
  have e0 : s₁.heap = h0 := by rw [← hh, Bd.state]; rfl
  have N0 := Fr.nil n0
  suffices hgo : Go p e below s ({ frames := 0, cells := 0, slots := 0, locals := 0 } : Room).cells ({ frames := 0, cells := 0, slots := 0, locals := 0 } : Room).slots (Q_rm2 Z ja jb h0 n0) s₁ (mkF m 0 #[.val (.long ja), .second, .val (.long jb), .second] []) from hgo.enter (ef_rm2 m ja jb)
  refine Go.step (fun _ k => XS.lloadN X0.here hx rfl (hb hby d2_0) rfl k) ?_
  show Go _ _ _ _ _ _ _ s₁ (mkF m 1 #[.val (.long ja), .second, .val (.long jb), .second] [(.long ja)])
  refine Go.step (fun _ k => XS.lloadN X0.here hx rfl (hb hby d2_1) rfl k) ?_
  show Go _ _ _ _ _ _ _ s₁ (mkF m 2 #[.val (.long ja), .second, .val (.long jb), .second] [(.long jb), (.long ja)])
  refine Go.step (fun _ k => XS.lcmp X0.here hx rfl (hb hby d2_2) rfl k) ?_
  show Go _ _ _ _ _ _ _ s₁ (mkF m 3 #[.val (.long ja), .second, .val (.long jb), .second] [(.int (lcmpW ja jb))])
  by_cases hc3_2 : ja < jb
  · refine Go.step (fun _ k => XS.ifYes X0.here hx rfl (pc0 := 3) (pc' := 10) rfl (hb hby d2_3) rfl ((if0 _ _).trans (tlt ((lw_lt _ _).mpr hc3_2)).1) (by decide) (by decide) k) ?_
    show Go _ _ _ _ _ _ _ s₁ (mkF m 10 #[.val (.long ja), .second, .val (.long jb), .second] [])
    refine Go.step (fun _ k => XS.lloadN X0.here hx rfl (hb hby d2_10) rfl k) ?_
    show Go _ _ _ _ _ _ _ s₁ (mkF m 11 #[.val (.long ja), .second, .val (.long jb), .second] [(.long jb)])
    exact Go.retJ X0 hx hret hlk (hb hby d2_11) e0 (by decide) (by decide) ⟨(congrArg (fun z => some (Value.long z)) (if_pos hc3_2).symm), N0, rfl⟩
  · refine Go.step (fun _ k => XS.ifNo X0.here hx rfl (hb hby d2_3) rfl ((if0 _ _).trans (flt (mt (lw_lt _ _).mp hc3_2)).1) k) ?_
    show Go _ _ _ _ _ _ _ s₁ (mkF m 6 #[.val (.long ja), .second, .val (.long jb), .second] [])
    refine Go.step (fun _ k => XS.lloadN X0.here hx rfl (hb hby d2_6) rfl k) ?_
    show Go _ _ _ _ _ _ _ s₁ (mkF m 7 #[.val (.long ja), .second, .val (.long jb), .second] [(.long ja)])
    refine Go.step (fun _ k => XS.goto X0.here hx rfl (pc0 := 7) (pc' := 11) rfl (hb hby d2_7) (by decide) (by decide) k) ?_
    show Go _ _ _ _ _ _ _ s₁ (mkF m 11 #[.val (.long ja), .second, .val (.long jb), .second] [(.long ja)])
    exact Go.retJ X0 hx hret hlk (hb hby d2_11) e0 (by decide) (by decide) ⟨(congrArg (fun z => some (Value.long z)) (if_neg hc3_2).symm), N0, rfl⟩
theorem own_b1 (fr qb : Int64) (b0 : ¬ (fr < (0 : Int64))) : ¬ ((own_max (0 : Int64) (((9223372036854775807 : Int64) - fr) - (qb &&& (3 : Int64)))) < (0 : Int64)) := (by have : (9223372036854775807 : Int64).toInt = 9223372036854775807 := rfl; have := rng64 fr; have := rng64 ((9223372036854775807 : Int64) - fr); have := c_lsub (9223372036854775807 : Int64) fr; have := rng64 qb; have : (3 : Int64).toInt = 3 := rfl; have := rng64 (qb &&& (3 : Int64)); have := c_maskL qb (3 : Int64) 2 (by decide) (by decide); have := rng64 (((9223372036854775807 : Int64) - fr) - (qb &&& (3 : Int64))); have := c_lsub ((9223372036854775807 : Int64) - fr) (qb &&& (3 : Int64)); have : (0 : Int64).toInt = 0 := rfl; unfold own_max; split <;> (rename_i hq; simp only [Int32.lt_iff_toInt_lt, Int32.le_iff_toInt_le, ← Int32.toInt_inj, Int64.lt_iff_toInt_lt, Int64.le_iff_toInt_le, ← Int64.toInt_inj] at hq b0 ⊢; omega))
theorem own_b2 (fr : Int64) (b0 : ¬ (fr < (0 : Int64))) : ¬ (((9223372036854775807 : Int64) - fr) < (0 : Int64)) := (by have : (9223372036854775807 : Int64).toInt = 9223372036854775807 := rfl; have := rng64 fr; have := rng64 ((9223372036854775807 : Int64) - fr); have := c_lsub (9223372036854775807 : Int64) fr; have : (0 : Int64).toInt = 0 := rfl; simp only [Int32.lt_iff_toInt_lt, Int32.le_iff_toInt_le, ← Int32.toInt_inj, Int64.lt_iff_toInt_lt, Int64.le_iff_toInt_le, ← Int64.toInt_inj] at b0 ⊢; omega)
theorem own_b3 (fr : Int64) (b0 : ¬ (fr < (0 : Int64))) (hq : ¬ (((9223372036854775807 : Int64) - fr) = (9223372036854775807 : Int64))) : ¬ ((((9223372036854775807 : Int64) - fr) + (1 : Int64)) < (0 : Int64)) := (by have : (9223372036854775807 : Int64).toInt = 9223372036854775807 := rfl; have := rng64 fr; have := rng64 ((9223372036854775807 : Int64) - fr); have := c_lsub (9223372036854775807 : Int64) fr; have : (1 : Int64).toInt = 1 := rfl; have := rng64 (((9223372036854775807 : Int64) - fr) + (1 : Int64)); have := c_ladd ((9223372036854775807 : Int64) - fr) (1 : Int64); have : (0 : Int64).toInt = 0 := rfl; simp only [Int32.lt_iff_toInt_lt, Int32.le_iff_toInt_le, ← Int32.toInt_inj, Int64.lt_iff_toInt_lt, Int64.le_iff_toInt_le, ← Int64.toInt_inj] at b0 hq ⊢; omega)
theorem own_f1 (fr nn : Int64) (b0 : ¬ (fr < (0 : Int64))) (b1 : ¬ (nn < (0 : Int64))) (h : (fr + nn) < (0 : Int64)) : own_after fr nn = (9223372036854775807 : Int64) := (by have : (9223372036854775807 : Int64).toInt = 9223372036854775807 := rfl; have := rng64 fr; have := rng64 ((9223372036854775807 : Int64) - fr); have := c_lsub (9223372036854775807 : Int64) fr; have := rng64 nn; have := rng64 (fr + nn); have := c_ladd fr nn; have : (0 : Int64).toInt = 0 := rfl; unfold own_after; split <;> (rename_i hq; simp only [Int32.lt_iff_toInt_lt, Int32.le_iff_toInt_le, ← Int32.toInt_inj, Int64.lt_iff_toInt_lt, Int64.le_iff_toInt_le, ← Int64.toInt_inj] at hq b0 b1 h ⊢ <;> omega))
theorem own_f2 (fr nn : Int64) (b0 : ¬ (fr < (0 : Int64))) (b1 : ¬ (nn < (0 : Int64))) (h : ¬ ((fr + nn) < (0 : Int64))) : own_after fr nn = (fr + nn) := (by have : (9223372036854775807 : Int64).toInt = 9223372036854775807 := rfl; have := rng64 fr; have := rng64 ((9223372036854775807 : Int64) - fr); have := c_lsub (9223372036854775807 : Int64) fr; have := rng64 nn; have := rng64 (fr + nn); have := c_ladd fr nn; have : (0 : Int64).toInt = 0 := rfl; unfold own_after; split <;> (rename_i hq; simp only [Int32.lt_iff_toInt_lt, Int32.le_iff_toInt_le, ← Int32.toInt_inj, Int64.lt_iff_toInt_lt, Int64.le_iff_toInt_le, ← Int64.toInt_inj] at hq b0 b1 h ⊢ <;> omega))
theorem pd__JJ_J : parseMethodDescriptor "(JJ)J" = some ⟨[.long, .long], some .long⟩ := by decide +kernel
theorem pn_com_example_moving_ceiling_movingceiling_model_OverloadModelAfterPinLaw : plainName "com/example/moving_ceiling/movingceiling/model/OverloadModelAfterPinLaw" = true := by first | (simp [plainName, overriddenIn]; done) | decide +kernel
theorem ef_rm0 (m : MethodId) (qa : Int64) (qb : Int64) (im : Int32) : entryFrame m #[(.long qa), (.long qb), (.int im)] maxLocals = mkF m 0 #[.val (.long qa), .second, .val (.long qb), .second, .val (.int im), .unset, .unset, .unset, .unset, .unset, .unset, .unset, .unset, .unset, .unset, .unset, .unset, .unset] [] := by first | (simp [entryFrame, mkF, argsToLocals, Value.category, maxLocals]; done) | rfl
def Q_rm0 (Z : State) (qa : Int64) (qb : Int64) (im : Int32) (h0 : Heap) (n0 : Nat) (v : Option Value) (h : Heap) (L : List Loc) : Prop := (v = some (.int (1 : Int32))) ∧ (Fr n0 L) ∧ (True)
set_option maxRecDepth 65536 in
set_option maxHeartbeats 40000000 in
theorem rm0 (l : Launch) (Z : State) (a0 : Array Value) (hw : ∀ d ∈ tables_1, d.before a0 Z = true) (ws : List Jvm.Cond) (qa : Int64) (qb : Int64) (im : Int32) (h0 : Heap) (n0 : Nat) (Z0 : n0 ≤ h0.size) :
    MetFree l x (head1 (Jvm.Cond.code x code maxLocals ret :: ws) room_1) (fun aA U => aA = #[(.long qa), (.long qb), (.int im)] ∧ Z.Warmed39 U.vm ∧ U.heap = h0) (fun _ _ _ _ _ => True) (fun _ U o U' => ∃ v L, o = .returned v ∧ Q_rm0 Z qa qb im h0 n0 v U'.heap L ∧ FrameEnd U o U' L room_1.cells room_1.slots) := by
  refine MetFree.of_bodySF (plainFor_of_name pn_com_example_moving_ceiling_movingceiling_model_OverloadModelAfterPinLaw) hisR ?_
  intro p e s m args below meth c s₁ Bd hml0 hP hK
  obtain ⟨rfl, hZ, hh⟩ := hP
  have hx := Bd.exec
  have hby := Bd.bytes
  have hml : c.maxLocals = 18 := hml0
  have hown : s.vm.findClass "com/example/moving_ceiling/movingceiling/model/OverloadModelAfterPinLaw" = some m.cls := findClass_of_methodNamed Bd.named
  have hnm := (name_of_methodNamed Bd.named Bd.method).1
  have hret := Bd.returns
  have hlk : meth.locks = false := BodyLoose.notSynchronized Bd
  have X0 : Stand p l e room_1 s m #[(.long qa), (.long qb), (.int im)] below meth c s₁ [] 0 0 := Stand.of_body Bd
  have e0 : s₁.heap = h0 := by rw [← hh, Bd.state]; rfl
  have N0 := Fr.nil n0
  suffices hgo : Go p e below s room_1.cells room_1.slots (Q_rm0 Z qa qb im h0 n0) s₁ (mkF m 0 #[.val (.long qa), .second, .val (.long qb), .second, .val (.int im), .unset, .unset, .unset, .unset, .unset, .unset, .unset, .unset, .unset, .unset, .unset, .unset, .unset] []) from hgo.enter (ef_rm0 m qa qb im)
  refine Go.step (fun _ k => XS.lloadN X0.here hx rfl (hb hby at_0) rfl k) ?_
  show Go _ _ _ _ _ _ _ s₁ (mkF m 1 #[.val (.long qa), .second, .val (.long qb), .second, .val (.int im), .unset, .unset, .unset, .unset, .unset, .unset, .unset, .unset, .unset, .unset, .unset, .unset, .unset] [(.long qa)])
  refine Go.step (X0.ldc2Long hx hown (mvT hZ (hw _ (List.mem_of_getElem? (i := 0) rfl))) (g := (mkF m 1 #[.val (.long qa), .second, .val (.long qb), .second, .val (.int im), .unset, .unset, .unset, .unset, .unset, .unset, .unset, .unset, .unset, .unset, .unset, .unset, .unset] [(.long qa)])) rfl (hb hby at_1)) ?_
  show Go _ _ _ _ _ _ _ s₁ (mkF m 4 #[.val (.long qa), .second, .val (.long qb), .second, .val (.int im), .unset, .unset, .unset, .unset, .unset, .unset, .unset, .unset, .unset, .unset, .unset, .unset, .unset] [(.long (9223372036854775807 : Int64)), (.long qa)])
  refine Go.step (fun _ k => XS.land X0.here hx rfl (hb hby at_4) rfl k) ?_
  show Go _ _ _ _ _ _ _ s₁ (mkF m 5 #[.val (.long qa), .second, .val (.long qb), .second, .val (.int im), .unset, .unset, .unset, .unset, .unset, .unset, .unset, .unset, .unset, .unset, .unset, .unset, .unset] [(.long (qa &&& (9223372036854775807 : Int64)))])
  refine Go.step (fun _ k => XS.lstore X0.here hx rfl (hb hby at_5) rfl (l' := #[.val (.long qa), .second, .val (.long qb), .second, .val (.int im), .val (.long (qa &&& (9223372036854775807 : Int64))), .second, .unset, .unset, .unset, .unset, .unset, .unset, .unset, .unset, .unset, .unset, .unset]) rfl k) ?_
  show Go _ _ _ _ _ _ _ s₁ (mkF m 7 #[.val (.long qa), .second, .val (.long qb), .second, .val (.int im), .val (.long (qa &&& (9223372036854775807 : Int64))), .second, .unset, .unset, .unset, .unset, .unset, .unset, .unset, .unset, .unset, .unset, .unset] [])
  have b0 : ¬ ((qa &&& (9223372036854775807 : Int64)) < (0 : Int64)) := (by have := rng64 qa; have : (9223372036854775807 : Int64).toInt = 9223372036854775807 := rfl; have := rng64 (qa &&& (9223372036854775807 : Int64)); have := c_maskL qa (9223372036854775807 : Int64) 63 (by decide) (by decide); have : (0 : Int64).toInt = 0 := rfl; simp only [Int32.lt_iff_toInt_lt, Int32.le_iff_toInt_le, ← Int32.toInt_inj, Int64.lt_iff_toInt_lt, Int64.le_iff_toInt_le, ← Int64.toInt_inj] at ⊢; omega)
  generalize (qa &&& (9223372036854775807 : Int64)) = fr at b0 ⊢
  show Go _ _ _ _ _ _ _ s₁ (mkF m 7 #[.val (.long qa), .second, .val (.long qb), .second, .val (.int im), .val (.long fr), .second, .unset, .unset, .unset, .unset, .unset, .unset, .unset, .unset, .unset, .unset, .unset] [])
  refine Go.step (X0.ldc2Long hx hown (mvT hZ (hw _ (List.mem_of_getElem? (i := 0) rfl))) (g := (mkF m 7 #[.val (.long qa), .second, .val (.long qb), .second, .val (.int im), .val (.long fr), .second, .unset, .unset, .unset, .unset, .unset, .unset, .unset, .unset, .unset, .unset, .unset] [])) rfl (hb hby at_7)) ?_
  show Go _ _ _ _ _ _ _ s₁ (mkF m 10 #[.val (.long qa), .second, .val (.long qb), .second, .val (.int im), .val (.long fr), .second, .unset, .unset, .unset, .unset, .unset, .unset, .unset, .unset, .unset, .unset, .unset] [(.long (9223372036854775807 : Int64))])
  refine Go.step (fun _ k => XS.lload X0.here hx rfl (hb hby at_10) rfl k) ?_
  show Go _ _ _ _ _ _ _ s₁ (mkF m 12 #[.val (.long qa), .second, .val (.long qb), .second, .val (.int im), .val (.long fr), .second, .unset, .unset, .unset, .unset, .unset, .unset, .unset, .unset, .unset, .unset, .unset] [(.long fr), (.long (9223372036854775807 : Int64))])
  refine Go.step (fun _ k => XS.lsub X0.here hx rfl (hb hby at_12) rfl k) ?_
  show Go _ _ _ _ _ _ _ s₁ (mkF m 13 #[.val (.long qa), .second, .val (.long qb), .second, .val (.int im), .val (.long fr), .second, .unset, .unset, .unset, .unset, .unset, .unset, .unset, .unset, .unset, .unset, .unset] [(.long ((9223372036854775807 : Int64) - fr))])
  refine Go.step (fun _ k => XS.lstore X0.here hx rfl (hb hby at_13) rfl (l' := #[.val (.long qa), .second, .val (.long qb), .second, .val (.int im), .val (.long fr), .second, .val (.long ((9223372036854775807 : Int64) - fr)), .second, .unset, .unset, .unset, .unset, .unset, .unset, .unset, .unset, .unset]) rfl k) ?_
  show Go _ _ _ _ _ _ _ s₁ (mkF m 15 #[.val (.long qa), .second, .val (.long qb), .second, .val (.int im), .val (.long fr), .second, .val (.long ((9223372036854775807 : Int64) - fr)), .second, .unset, .unset, .unset, .unset, .unset, .unset, .unset, .unset, .unset] [])
  refine Go.step (fun _ k => XS.iload X0.here hx rfl (hb hby at_15) rfl k) ?_
  show Go _ _ _ _ _ _ _ s₁ (mkF m 17 #[.val (.long qa), .second, .val (.long qb), .second, .val (.int im), .val (.long fr), .second, .val (.long ((9223372036854775807 : Int64) - fr)), .second, .unset, .unset, .unset, .unset, .unset, .unset, .unset, .unset, .unset] [(.int im)])
  refine Go.step (fun _ k => XS.iconst X0.here hx rfl (hb hby at_17) k) ?_
  show Go _ _ _ _ _ _ _ s₁ (mkF m 18 #[.val (.long qa), .second, .val (.long qb), .second, .val (.int im), .val (.long fr), .second, .val (.long ((9223372036854775807 : Int64) - fr)), .second, .unset, .unset, .unset, .unset, .unset, .unset, .unset, .unset, .unset] [(.int (3 : Int32)), (.int im)])
  refine Go.step (fun _ k => XS.iand X0.here hx rfl (hb hby at_18) rfl k) ?_
  show Go _ _ _ _ _ _ _ s₁ (mkF m 19 #[.val (.long qa), .second, .val (.long qb), .second, .val (.int im), .val (.long fr), .second, .val (.long ((9223372036854775807 : Int64) - fr)), .second, .unset, .unset, .unset, .unset, .unset, .unset, .unset, .unset, .unset] [(.int (im &&& (3 : Int32)))])
  refine Go.step (fun _ k => XS.istore X0.here hx rfl (hb hby at_19) rfl (l' := #[.val (.long qa), .second, .val (.long qb), .second, .val (.int im), .val (.long fr), .second, .val (.long ((9223372036854775807 : Int64) - fr)), .second, .unset, .unset, .val (.int (im &&& (3 : Int32))), .unset, .unset, .unset, .unset, .unset, .unset]) rfl k) ?_
  show Go _ _ _ _ _ _ _ s₁ (mkF m 21 #[.val (.long qa), .second, .val (.long qb), .second, .val (.int im), .val (.long fr), .second, .val (.long ((9223372036854775807 : Int64) - fr)), .second, .unset, .unset, .val (.int (im &&& (3 : Int32))), .unset, .unset, .unset, .unset, .unset, .unset] [])
  generalize (im &&& (3 : Int32)) = md
  show Go _ _ _ _ _ _ _ s₁ (mkF m 21 #[.val (.long qa), .second, .val (.long qb), .second, .val (.int im), .val (.long fr), .second, .val (.long ((9223372036854775807 : Int64) - fr)), .second, .unset, .unset, .val (.int md), .unset, .unset, .unset, .unset, .unset, .unset] [])
  refine Go.step (fun _ k => XS.iload X0.here hx rfl (hb hby at_21) rfl k) ?_
  show Go _ _ _ _ _ _ _ s₁ (mkF m 23 #[.val (.long qa), .second, .val (.long qb), .second, .val (.int im), .val (.long fr), .second, .val (.long ((9223372036854775807 : Int64) - fr)), .second, .unset, .unset, .val (.int md), .unset, .unset, .unset, .unset, .unset, .unset] [(.int md)])
  refine Go.step (fun _ k => XS.iconst X0.here hx rfl (hb hby at_23) k) ?_
  show Go _ _ _ _ _ _ _ s₁ (mkF m 24 #[.val (.long qa), .second, .val (.long qb), .second, .val (.int im), .val (.long fr), .second, .val (.long ((9223372036854775807 : Int64) - fr)), .second, .unset, .unset, .val (.int md), .unset, .unset, .unset, .unset, .unset, .unset] [(.int (1 : Int32)), (.int md)])
  by_cases hc24_3 : md = (1 : Int32)
  · refine Go.step (fun _ k => XS.icmpNo X0.here hx rfl (hb hby at_24) rfl (teq hc24_3).2 k) ?_
    show Go _ _ _ _ _ _ _ s₁ (mkF m 27 #[.val (.long qa), .second, .val (.long qb), .second, .val (.int im), .val (.long fr), .second, .val (.long ((9223372036854775807 : Int64) - fr)), .second, .unset, .unset, .val (.int md), .unset, .unset, .unset, .unset, .unset, .unset] [])
    refine Go.step (fun _ k => XS.lconst X0.here hx rfl (hb hby at_27) k) ?_
    show Go _ _ _ _ _ _ _ s₁ (mkF m 28 #[.val (.long qa), .second, .val (.long qb), .second, .val (.int im), .val (.long fr), .second, .val (.long ((9223372036854775807 : Int64) - fr)), .second, .unset, .unset, .val (.int md), .unset, .unset, .unset, .unset, .unset, .unset] [(.long (0 : Int64))])
    refine Go.step (fun _ k => XS.lload X0.here hx rfl (hb hby at_28) rfl k) ?_
    show Go _ _ _ _ _ _ _ s₁ (mkF m 30 #[.val (.long qa), .second, .val (.long qb), .second, .val (.int im), .val (.long fr), .second, .val (.long ((9223372036854775807 : Int64) - fr)), .second, .unset, .unset, .val (.int md), .unset, .unset, .unset, .unset, .unset, .unset] [(.long ((9223372036854775807 : Int64) - fr)), (.long (0 : Int64))])
    refine Go.step (fun _ k => XS.lloadN X0.here hx rfl (hb hby at_30) rfl k) ?_
    show Go _ _ _ _ _ _ _ s₁ (mkF m 31 #[.val (.long qa), .second, .val (.long qb), .second, .val (.int im), .val (.long fr), .second, .val (.long ((9223372036854775807 : Int64) - fr)), .second, .unset, .unset, .val (.int md), .unset, .unset, .unset, .unset, .unset, .unset] [(.long qb), (.long ((9223372036854775807 : Int64) - fr)), (.long (0 : Int64))])
    refine Go.step (X0.ldc2Long hx hown (mvT hZ (hw _ (List.mem_of_getElem? (i := 6) rfl))) (g := (mkF m 31 #[.val (.long qa), .second, .val (.long qb), .second, .val (.int im), .val (.long fr), .second, .val (.long ((9223372036854775807 : Int64) - fr)), .second, .unset, .unset, .val (.int md), .unset, .unset, .unset, .unset, .unset, .unset] [(.long qb), (.long ((9223372036854775807 : Int64) - fr)), (.long (0 : Int64))])) rfl (hb hby at_31)) ?_
    show Go _ _ _ _ _ _ _ s₁ (mkF m 34 #[.val (.long qa), .second, .val (.long qb), .second, .val (.int im), .val (.long fr), .second, .val (.long ((9223372036854775807 : Int64) - fr)), .second, .unset, .unset, .val (.int md), .unset, .unset, .unset, .unset, .unset, .unset] [(.long (3 : Int64)), (.long qb), (.long ((9223372036854775807 : Int64) - fr)), (.long (0 : Int64))])
    refine Go.step (fun _ k => XS.land X0.here hx rfl (hb hby at_34) rfl k) ?_
    show Go _ _ _ _ _ _ _ s₁ (mkF m 35 #[.val (.long qa), .second, .val (.long qb), .second, .val (.int im), .val (.long fr), .second, .val (.long ((9223372036854775807 : Int64) - fr)), .second, .unset, .unset, .val (.int md), .unset, .unset, .unset, .unset, .unset, .unset] [(.long (qb &&& (3 : Int64))), (.long ((9223372036854775807 : Int64) - fr)), (.long (0 : Int64))])
    refine Go.step (fun _ k => XS.lsub X0.here hx rfl (hb hby at_35) rfl k) ?_
    show Go _ _ _ _ _ _ _ s₁ (mkF m 36 #[.val (.long qa), .second, .val (.long qb), .second, .val (.int im), .val (.long fr), .second, .val (.long ((9223372036854775807 : Int64) - fr)), .second, .unset, .unset, .val (.int md), .unset, .unset, .unset, .unset, .unset, .unset] [(.long (((9223372036854775807 : Int64) - fr) - (qb &&& (3 : Int64)))), (.long (0 : Int64))])
    obtain ⟨_, _, ⟨T4, L4, k4, n4⟩, -, X4, ⟨Lc4, hQ4, l4, y4, z4⟩, st4⟩ := Jvm.LawKit.callS X0 hx (y := (⟨"java/lang/Math", "max", "(JJ)J"⟩ : MethodName)) hown (mvT hZ (hw _ (List.mem_of_getElem? (i := 7) rfl))) (mvT hZ (hw _ (List.mem_of_getElem? (i := 8) rfl))) (mvT hZ (hw _ (List.mem_of_getElem? (i := 9) rfl))) (mvT hZ (hw _ (List.mem_of_getElem? (i := 10) rfl))) (by decide) (backOf (W := 0) (rm2 l Z a0 hw [] (0 : Int64) (((9223372036854775807 : Int64) - fr) - (qb &&& (3 : Int64))) h0 n0 Z0 ) hZ (hw _ (List.mem_of_getElem? (i := 10) rfl)) (hw _ (List.mem_of_getElem? (i := 9) rfl)) (by decide) (by decide)) (g := (mkF m 36 #[.val (.long qa), .second, .val (.long qb), .second, .val (.int im), .val (.long fr), .second, .val (.long ((9223372036854775807 : Int64) - fr)), .second, .unset, .unset, .val (.int md), .unset, .unset, .unset, .unset, .unset, .unset] [(.long (((9223372036854775807 : Int64) - fr) - (qb &&& (3 : Int64)))), (.long (0 : Int64))])) rfl (by rw [hml]; rfl) (argsL := [(.long (0 : Int64)), (.long (((9223372036854775807 : Int64) - fr) - (qb &&& (3 : Int64))))]) (rest := []) (lenOf pd__JJ_J rfl) rfl (by show 2 * 0 + _ ≤ _; exact Nat.le_of_eq rfl) (hb hby at_36) (fun _ _ => ⟨rfl, e0, (by decide : 0 + 0 ≤ _), (by decide : 0 + 0 ≤ _)⟩)
    dsimp only [Pt.U, Pt.locs, Pt.cells, Pt.slots] at X4 l4 y4 z4 st4 hQ4
    subst l4 y4 z4
    obtain ⟨h4, e4⟩ : ∃ h, T4.heap = h := ⟨_, rfl⟩
    rw [e4] at hQ4
    obtain ⟨rfl, Nq4, hs4⟩ := hQ4
    have N4 := Fr.app N0 Nq4
    rw [hs4] at e4
    refine Go.step st4 ?_
    show Go _ _ _ _ _ _ _ T4 (mkF m 39 #[.val (.long qa), .second, .val (.long qb), .second, .val (.int im), .val (.long fr), .second, .val (.long ((9223372036854775807 : Int64) - fr)), .second, .unset, .unset, .val (.int md), .unset, .unset, .unset, .unset, .unset, .unset] [(.long (own_max (0 : Int64) (((9223372036854775807 : Int64) - fr) - (qb &&& (3 : Int64)))))])
    refine Go.step (fun _ k => XS.lstore X4.here hx rfl (hb hby at_39) rfl (l' := #[.val (.long qa), .second, .val (.long qb), .second, .val (.int im), .val (.long fr), .second, .val (.long ((9223372036854775807 : Int64) - fr)), .second, .val (.long (own_max (0 : Int64) (((9223372036854775807 : Int64) - fr) - (qb &&& (3 : Int64))))), .second, .val (.int md), .unset, .unset, .unset, .unset, .unset, .unset]) rfl k) ?_
    show Go _ _ _ _ _ _ _ T4 (mkF m 41 #[.val (.long qa), .second, .val (.long qb), .second, .val (.int im), .val (.long fr), .second, .val (.long ((9223372036854775807 : Int64) - fr)), .second, .val (.long (own_max (0 : Int64) (((9223372036854775807 : Int64) - fr) - (qb &&& (3 : Int64))))), .second, .val (.int md), .unset, .unset, .unset, .unset, .unset, .unset] [])
    refine Go.step (fun _ k => XS.goto X4.here hx rfl (pc0 := 41) (pc' := 80) rfl (hb hby at_41) (by decide) (by decide) k) ?_
    show Go _ _ _ _ _ _ _ T4 (mkF m 80 #[.val (.long qa), .second, .val (.long qb), .second, .val (.int im), .val (.long fr), .second, .val (.long ((9223372036854775807 : Int64) - fr)), .second, .val (.long (own_max (0 : Int64) (((9223372036854775807 : Int64) - fr) - (qb &&& (3 : Int64))))), .second, .val (.int md), .unset, .unset, .unset, .unset, .unset, .unset] [])
    have b1 : ¬ ((own_max (0 : Int64) (((9223372036854775807 : Int64) - fr) - (qb &&& (3 : Int64)))) < (0 : Int64)) := own_b1 _ _ b0
    generalize (own_max (0 : Int64) (((9223372036854775807 : Int64) - fr) - (qb &&& (3 : Int64)))) = nn at b1 ⊢
    show Go _ _ _ _ _ _ _ T4 (mkF m 80 #[.val (.long qa), .second, .val (.long qb), .second, .val (.int im), .val (.long fr), .second, .val (.long ((9223372036854775807 : Int64) - fr)), .second, .val (.long nn), .second, .val (.int md), .unset, .unset, .unset, .unset, .unset, .unset] [])
    refine Go.step (fun _ k => XS.lload X4.here hx rfl (hb hby at_80) rfl k) ?_
    show Go _ _ _ _ _ _ _ T4 (mkF m 82 #[.val (.long qa), .second, .val (.long qb), .second, .val (.int im), .val (.long fr), .second, .val (.long ((9223372036854775807 : Int64) - fr)), .second, .val (.long nn), .second, .val (.int md), .unset, .unset, .unset, .unset, .unset, .unset] [(.long fr)])
    refine Go.step (fun _ k => XS.lload X4.here hx rfl (hb hby at_82) rfl k) ?_
    show Go _ _ _ _ _ _ _ T4 (mkF m 84 #[.val (.long qa), .second, .val (.long qb), .second, .val (.int im), .val (.long fr), .second, .val (.long ((9223372036854775807 : Int64) - fr)), .second, .val (.long nn), .second, .val (.int md), .unset, .unset, .unset, .unset, .unset, .unset] [(.long nn), (.long fr)])
    obtain ⟨_, _, ⟨T5, L5, k5, n5⟩, -, X5, ⟨Lc5, hQ5, l5, y5, z5⟩, st5⟩ := Jvm.LawKit.callS X4 hx (y := (⟨"com/example/moving_ceiling/movingceiling/model/OverloadModel", "after", "(JJ)J"⟩ : MethodName)) hown (mvT hZ (hw _ (List.mem_of_getElem? (i := 1) rfl))) (mvT hZ (hw _ (List.mem_of_getElem? (i := 2) rfl))) (mvT hZ (hw _ (List.mem_of_getElem? (i := 3) rfl))) (mvT hZ (hw _ (List.mem_of_getElem? (i := 4) rfl))) (by decide) (backOf (W := 0) (rm1 l Z a0 hw [] fr nn h0 n0 Z0 ) hZ (hw _ (List.mem_of_getElem? (i := 4) rfl)) (hw _ (List.mem_of_getElem? (i := 3) rfl)) (by decide) (by decide)) (g := (mkF m 84 #[.val (.long qa), .second, .val (.long qb), .second, .val (.int im), .val (.long fr), .second, .val (.long ((9223372036854775807 : Int64) - fr)), .second, .val (.long nn), .second, .val (.int md), .unset, .unset, .unset, .unset, .unset, .unset] [(.long nn), (.long fr)])) rfl (by rw [hml]; rfl) (argsL := [(.long fr), (.long nn)]) (rest := []) (lenOf pd__JJ_J rfl) rfl (by show 2 * 0 + _ ≤ _; exact Nat.le_of_eq rfl) (hb hby at_84) (fun _ _ => ⟨rfl, e4, (by decide : 0 + 0 ≤ _), (by decide : 0 + 0 ≤ _)⟩)
    dsimp only [Pt.U, Pt.locs, Pt.cells, Pt.slots] at X5 l5 y5 z5 st5 hQ5
    subst l5 y5 z5
    obtain ⟨h5, e5⟩ : ∃ h, T5.heap = h := ⟨_, rfl⟩
    rw [e5] at hQ5
    obtain ⟨rfl, Nq5, hs5⟩ := hQ5
    have N5 := Fr.app N4 Nq5
    rw [hs5] at e5
    refine Go.step st5 ?_
    show Go _ _ _ _ _ _ _ T5 (mkF m 87 #[.val (.long qa), .second, .val (.long qb), .second, .val (.int im), .val (.long fr), .second, .val (.long ((9223372036854775807 : Int64) - fr)), .second, .val (.long nn), .second, .val (.int md), .unset, .unset, .unset, .unset, .unset, .unset] [(.long (own_after fr nn))])
    refine Go.step (fun _ k => XS.lstore X5.here hx rfl (hb hby at_87) rfl (l' := #[.val (.long qa), .second, .val (.long qb), .second, .val (.int im), .val (.long fr), .second, .val (.long ((9223372036854775807 : Int64) - fr)), .second, .val (.long nn), .second, .val (.int md), .val (.long (own_after fr nn)), .second, .unset, .unset, .unset, .unset]) rfl k) ?_
    show Go _ _ _ _ _ _ _ T5 (mkF m 89 #[.val (.long qa), .second, .val (.long qb), .second, .val (.int im), .val (.long fr), .second, .val (.long ((9223372036854775807 : Int64) - fr)), .second, .val (.long nn), .second, .val (.int md), .val (.long (own_after fr nn)), .second, .unset, .unset, .unset, .unset] [])
    refine Go.step (fun _ k => XS.lload X5.here hx rfl (hb hby at_89) rfl k) ?_
    show Go _ _ _ _ _ _ _ T5 (mkF m 91 #[.val (.long qa), .second, .val (.long qb), .second, .val (.int im), .val (.long fr), .second, .val (.long ((9223372036854775807 : Int64) - fr)), .second, .val (.long nn), .second, .val (.int md), .val (.long (own_after fr nn)), .second, .unset, .unset, .unset, .unset] [(.long fr)])
    refine Go.step (fun _ k => XS.lload X5.here hx rfl (hb hby at_91) rfl k) ?_
    show Go _ _ _ _ _ _ _ T5 (mkF m 93 #[.val (.long qa), .second, .val (.long qb), .second, .val (.int im), .val (.long fr), .second, .val (.long ((9223372036854775807 : Int64) - fr)), .second, .val (.long nn), .second, .val (.int md), .val (.long (own_after fr nn)), .second, .unset, .unset, .unset, .unset] [(.long nn), (.long fr)])
    refine Go.step (fun _ k => XS.ladd X5.here hx rfl (hb hby at_93) rfl k) ?_
    show Go _ _ _ _ _ _ _ T5 (mkF m 94 #[.val (.long qa), .second, .val (.long qb), .second, .val (.int im), .val (.long fr), .second, .val (.long ((9223372036854775807 : Int64) - fr)), .second, .val (.long nn), .second, .val (.int md), .val (.long (own_after fr nn)), .second, .unset, .unset, .unset, .unset] [(.long (fr + nn))])
    refine Go.step (fun _ k => XS.lstore X5.here hx rfl (hb hby at_94) rfl (l' := #[.val (.long qa), .second, .val (.long qb), .second, .val (.int im), .val (.long fr), .second, .val (.long ((9223372036854775807 : Int64) - fr)), .second, .val (.long nn), .second, .val (.int md), .val (.long (own_after fr nn)), .second, .val (.long (fr + nn)), .second, .unset, .unset]) rfl k) ?_
    show Go _ _ _ _ _ _ _ T5 (mkF m 96 #[.val (.long qa), .second, .val (.long qb), .second, .val (.int im), .val (.long fr), .second, .val (.long ((9223372036854775807 : Int64) - fr)), .second, .val (.long nn), .second, .val (.int md), .val (.long (own_after fr nn)), .second, .val (.long (fr + nn)), .second, .unset, .unset] [])
    refine Go.step (fun _ k => XS.lload X5.here hx rfl (hb hby at_96) rfl k) ?_
    show Go _ _ _ _ _ _ _ T5 (mkF m 98 #[.val (.long qa), .second, .val (.long qb), .second, .val (.int im), .val (.long fr), .second, .val (.long ((9223372036854775807 : Int64) - fr)), .second, .val (.long nn), .second, .val (.int md), .val (.long (own_after fr nn)), .second, .val (.long (fr + nn)), .second, .unset, .unset] [(.long (fr + nn))])
    refine Go.step (fun _ k => XS.lconst X5.here hx rfl (hb hby at_98) k) ?_
    show Go _ _ _ _ _ _ _ T5 (mkF m 99 #[.val (.long qa), .second, .val (.long qb), .second, .val (.int im), .val (.long fr), .second, .val (.long ((9223372036854775807 : Int64) - fr)), .second, .val (.long nn), .second, .val (.int md), .val (.long (own_after fr nn)), .second, .val (.long (fr + nn)), .second, .unset, .unset] [(.long (0 : Int64)), (.long (fr + nn))])
    refine Go.step (fun _ k => XS.lcmp X5.here hx rfl (hb hby at_99) rfl k) ?_
    show Go _ _ _ _ _ _ _ T5 (mkF m 100 #[.val (.long qa), .second, .val (.long qb), .second, .val (.int im), .val (.long fr), .second, .val (.long ((9223372036854775807 : Int64) - fr)), .second, .val (.long nn), .second, .val (.int md), .val (.long (own_after fr nn)), .second, .val (.long (fr + nn)), .second, .unset, .unset] [(.int (lcmpW (fr + nn) (0 : Int64)))])
    by_cases hc100_6 : (fr + nn) < (0 : Int64)
    · refine Go.step (fun _ k => XS.ifNo X5.here hx rfl (hb hby at_100) rfl ((if0 _ _).trans (tlt ((lw_lt _ _).mpr hc100_6)).2.1) k) ?_
      show Go _ _ _ _ _ _ _ T5 (mkF m 103 #[.val (.long qa), .second, .val (.long qb), .second, .val (.int im), .val (.long fr), .second, .val (.long ((9223372036854775807 : Int64) - fr)), .second, .val (.long nn), .second, .val (.int md), .val (.long (own_after fr nn)), .second, .val (.long (fr + nn)), .second, .unset, .unset] [])
      refine Go.step (X5.ldc2Long hx hown (mvT hZ (hw _ (List.mem_of_getElem? (i := 0) rfl))) (g := (mkF m 103 #[.val (.long qa), .second, .val (.long qb), .second, .val (.int im), .val (.long fr), .second, .val (.long ((9223372036854775807 : Int64) - fr)), .second, .val (.long nn), .second, .val (.int md), .val (.long (own_after fr nn)), .second, .val (.long (fr + nn)), .second, .unset, .unset] [])) rfl (hb hby at_103)) ?_
      show Go _ _ _ _ _ _ _ T5 (mkF m 106 #[.val (.long qa), .second, .val (.long qb), .second, .val (.int im), .val (.long fr), .second, .val (.long ((9223372036854775807 : Int64) - fr)), .second, .val (.long nn), .second, .val (.int md), .val (.long (own_after fr nn)), .second, .val (.long (fr + nn)), .second, .unset, .unset] [(.long (9223372036854775807 : Int64))])
      refine Go.step (fun _ k => XS.goto X5.here hx rfl (pc0 := 106) (pc' := 111) rfl (hb hby at_106) (by decide) (by decide) k) ?_
      show Go _ _ _ _ _ _ _ T5 (mkF m 111 #[.val (.long qa), .second, .val (.long qb), .second, .val (.int im), .val (.long fr), .second, .val (.long ((9223372036854775807 : Int64) - fr)), .second, .val (.long nn), .second, .val (.int md), .val (.long (own_after fr nn)), .second, .val (.long (fr + nn)), .second, .unset, .unset] [(.long (9223372036854775807 : Int64))])
      refine Go.step (fun _ k => XS.lstore X5.here hx rfl (hb hby at_111) rfl (l' := #[.val (.long qa), .second, .val (.long qb), .second, .val (.int im), .val (.long fr), .second, .val (.long ((9223372036854775807 : Int64) - fr)), .second, .val (.long nn), .second, .val (.int md), .val (.long (own_after fr nn)), .second, .val (.long (fr + nn)), .second, .val (.long (9223372036854775807 : Int64)), .second]) rfl k) ?_
      show Go _ _ _ _ _ _ _ T5 (mkF m 113 #[.val (.long qa), .second, .val (.long qb), .second, .val (.int im), .val (.long fr), .second, .val (.long ((9223372036854775807 : Int64) - fr)), .second, .val (.long nn), .second, .val (.int md), .val (.long (own_after fr nn)), .second, .val (.long (fr + nn)), .second, .val (.long (9223372036854775807 : Int64)), .second] [])
      refine Go.step (fun _ k => XS.lload X5.here hx rfl (hb hby at_113) rfl k) ?_
      show Go _ _ _ _ _ _ _ T5 (mkF m 115 #[.val (.long qa), .second, .val (.long qb), .second, .val (.int im), .val (.long fr), .second, .val (.long ((9223372036854775807 : Int64) - fr)), .second, .val (.long nn), .second, .val (.int md), .val (.long (own_after fr nn)), .second, .val (.long (fr + nn)), .second, .val (.long (9223372036854775807 : Int64)), .second] [(.long (own_after fr nn))])
      refine Go.step (fun _ k => XS.lload X5.here hx rfl (hb hby at_115) rfl k) ?_
      show Go _ _ _ _ _ _ _ T5 (mkF m 117 #[.val (.long qa), .second, .val (.long qb), .second, .val (.int im), .val (.long fr), .second, .val (.long ((9223372036854775807 : Int64) - fr)), .second, .val (.long nn), .second, .val (.int md), .val (.long (own_after fr nn)), .second, .val (.long (fr + nn)), .second, .val (.long (9223372036854775807 : Int64)), .second] [(.long (9223372036854775807 : Int64)), (.long (own_after fr nn))])
      refine Go.step (fun _ k => XS.lcmp X5.here hx rfl (hb hby at_117) rfl k) ?_
      show Go _ _ _ _ _ _ _ T5 (mkF m 118 #[.val (.long qa), .second, .val (.long qb), .second, .val (.int im), .val (.long fr), .second, .val (.long ((9223372036854775807 : Int64) - fr)), .second, .val (.long nn), .second, .val (.int md), .val (.long (own_after fr nn)), .second, .val (.long (fr + nn)), .second, .val (.long (9223372036854775807 : Int64)), .second] [(.int (lcmpW (own_after fr nn) (9223372036854775807 : Int64)))])
      have hc118_7 : (own_after fr nn) = (9223372036854775807 : Int64) := own_f1 _ _ b0 b1 hc100_6
      refine Go.step (fun _ k => XS.ifNo X5.here hx rfl (hb hby at_118) rfl ((if0 _ _).trans (teq ((lw_eq _ _).mpr hc118_7)).2) k) ?_
      show Go _ _ _ _ _ _ _ T5 (mkF m 121 #[.val (.long qa), .second, .val (.long qb), .second, .val (.int im), .val (.long fr), .second, .val (.long ((9223372036854775807 : Int64) - fr)), .second, .val (.long nn), .second, .val (.int md), .val (.long (own_after fr nn)), .second, .val (.long (fr + nn)), .second, .val (.long (9223372036854775807 : Int64)), .second] [])
      refine Go.step (fun _ k => XS.iconst X5.here hx rfl (hb hby at_121) k) ?_
      show Go _ _ _ _ _ _ _ T5 (mkF m 122 #[.val (.long qa), .second, .val (.long qb), .second, .val (.int im), .val (.long fr), .second, .val (.long ((9223372036854775807 : Int64) - fr)), .second, .val (.long nn), .second, .val (.int md), .val (.long (own_after fr nn)), .second, .val (.long (fr + nn)), .second, .val (.long (9223372036854775807 : Int64)), .second] [(.int (1 : Int32))])
      refine Go.step (fun _ k => XS.goto X5.here hx rfl (pc0 := 122) (pc' := 126) rfl (hb hby at_122) (by decide) (by decide) k) ?_
      show Go _ _ _ _ _ _ _ T5 (mkF m 126 #[.val (.long qa), .second, .val (.long qb), .second, .val (.int im), .val (.long fr), .second, .val (.long ((9223372036854775807 : Int64) - fr)), .second, .val (.long nn), .second, .val (.int md), .val (.long (own_after fr nn)), .second, .val (.long (fr + nn)), .second, .val (.long (9223372036854775807 : Int64)), .second] [(.int (1 : Int32))])
      exact Go.retN X5 hx (t := .boolean) hret hlk (by simp) (hb hby at_126) e5 (by decide) (by decide) ⟨rfl, N5, trivial⟩
    · refine Go.step (fun _ k => XS.ifYes X5.here hx rfl (pc0 := 100) (pc' := 109) rfl (hb hby at_100) rfl ((if0 _ _).trans (flt (mt (lw_lt _ _).mp hc100_6)).2.1) (by decide) (by decide) k) ?_
      show Go _ _ _ _ _ _ _ T5 (mkF m 109 #[.val (.long qa), .second, .val (.long qb), .second, .val (.int im), .val (.long fr), .second, .val (.long ((9223372036854775807 : Int64) - fr)), .second, .val (.long nn), .second, .val (.int md), .val (.long (own_after fr nn)), .second, .val (.long (fr + nn)), .second, .unset, .unset] [])
      refine Go.step (fun _ k => XS.lload X5.here hx rfl (hb hby at_109) rfl k) ?_
      show Go _ _ _ _ _ _ _ T5 (mkF m 111 #[.val (.long qa), .second, .val (.long qb), .second, .val (.int im), .val (.long fr), .second, .val (.long ((9223372036854775807 : Int64) - fr)), .second, .val (.long nn), .second, .val (.int md), .val (.long (own_after fr nn)), .second, .val (.long (fr + nn)), .second, .unset, .unset] [(.long (fr + nn))])
      refine Go.step (fun _ k => XS.lstore X5.here hx rfl (hb hby at_111) rfl (l' := #[.val (.long qa), .second, .val (.long qb), .second, .val (.int im), .val (.long fr), .second, .val (.long ((9223372036854775807 : Int64) - fr)), .second, .val (.long nn), .second, .val (.int md), .val (.long (own_after fr nn)), .second, .val (.long (fr + nn)), .second, .val (.long (fr + nn)), .second]) rfl k) ?_
      show Go _ _ _ _ _ _ _ T5 (mkF m 113 #[.val (.long qa), .second, .val (.long qb), .second, .val (.int im), .val (.long fr), .second, .val (.long ((9223372036854775807 : Int64) - fr)), .second, .val (.long nn), .second, .val (.int md), .val (.long (own_after fr nn)), .second, .val (.long (fr + nn)), .second, .val (.long (fr + nn)), .second] [])
      refine Go.step (fun _ k => XS.lload X5.here hx rfl (hb hby at_113) rfl k) ?_
      show Go _ _ _ _ _ _ _ T5 (mkF m 115 #[.val (.long qa), .second, .val (.long qb), .second, .val (.int im), .val (.long fr), .second, .val (.long ((9223372036854775807 : Int64) - fr)), .second, .val (.long nn), .second, .val (.int md), .val (.long (own_after fr nn)), .second, .val (.long (fr + nn)), .second, .val (.long (fr + nn)), .second] [(.long (own_after fr nn))])
      refine Go.step (fun _ k => XS.lload X5.here hx rfl (hb hby at_115) rfl k) ?_
      show Go _ _ _ _ _ _ _ T5 (mkF m 117 #[.val (.long qa), .second, .val (.long qb), .second, .val (.int im), .val (.long fr), .second, .val (.long ((9223372036854775807 : Int64) - fr)), .second, .val (.long nn), .second, .val (.int md), .val (.long (own_after fr nn)), .second, .val (.long (fr + nn)), .second, .val (.long (fr + nn)), .second] [(.long (fr + nn)), (.long (own_after fr nn))])
      refine Go.step (fun _ k => XS.lcmp X5.here hx rfl (hb hby at_117) rfl k) ?_
      show Go _ _ _ _ _ _ _ T5 (mkF m 118 #[.val (.long qa), .second, .val (.long qb), .second, .val (.int im), .val (.long fr), .second, .val (.long ((9223372036854775807 : Int64) - fr)), .second, .val (.long nn), .second, .val (.int md), .val (.long (own_after fr nn)), .second, .val (.long (fr + nn)), .second, .val (.long (fr + nn)), .second] [(.int (lcmpW (own_after fr nn) (fr + nn)))])
      have hc118_8 : (own_after fr nn) = (fr + nn) := own_f2 _ _ b0 b1 hc100_6
      refine Go.step (fun _ k => XS.ifNo X5.here hx rfl (hb hby at_118) rfl ((if0 _ _).trans (teq ((lw_eq _ _).mpr hc118_8)).2) k) ?_
      show Go _ _ _ _ _ _ _ T5 (mkF m 121 #[.val (.long qa), .second, .val (.long qb), .second, .val (.int im), .val (.long fr), .second, .val (.long ((9223372036854775807 : Int64) - fr)), .second, .val (.long nn), .second, .val (.int md), .val (.long (own_after fr nn)), .second, .val (.long (fr + nn)), .second, .val (.long (fr + nn)), .second] [])
      refine Go.step (fun _ k => XS.iconst X5.here hx rfl (hb hby at_121) k) ?_
      show Go _ _ _ _ _ _ _ T5 (mkF m 122 #[.val (.long qa), .second, .val (.long qb), .second, .val (.int im), .val (.long fr), .second, .val (.long ((9223372036854775807 : Int64) - fr)), .second, .val (.long nn), .second, .val (.int md), .val (.long (own_after fr nn)), .second, .val (.long (fr + nn)), .second, .val (.long (fr + nn)), .second] [(.int (1 : Int32))])
      refine Go.step (fun _ k => XS.goto X5.here hx rfl (pc0 := 122) (pc' := 126) rfl (hb hby at_122) (by decide) (by decide) k) ?_
      show Go _ _ _ _ _ _ _ T5 (mkF m 126 #[.val (.long qa), .second, .val (.long qb), .second, .val (.int im), .val (.long fr), .second, .val (.long ((9223372036854775807 : Int64) - fr)), .second, .val (.long nn), .second, .val (.int md), .val (.long (own_after fr nn)), .second, .val (.long (fr + nn)), .second, .val (.long (fr + nn)), .second] [(.int (1 : Int32))])
      exact Go.retN X5 hx (t := .boolean) hret hlk (by simp) (hb hby at_126) e5 (by decide) (by decide) ⟨rfl, N5, trivial⟩
  · refine Go.step (fun _ k => XS.icmpYes X0.here hx rfl (pc0 := 24) (pc' := 44) rfl (hb hby at_24) rfl (feq hc24_3).2 (by decide) (by decide) k) ?_
    show Go _ _ _ _ _ _ _ s₁ (mkF m 44 #[.val (.long qa), .second, .val (.long qb), .second, .val (.int im), .val (.long fr), .second, .val (.long ((9223372036854775807 : Int64) - fr)), .second, .unset, .unset, .val (.int md), .unset, .unset, .unset, .unset, .unset, .unset] [])
    refine Go.step (fun _ k => XS.iload X0.here hx rfl (hb hby at_44) rfl k) ?_
    show Go _ _ _ _ _ _ _ s₁ (mkF m 46 #[.val (.long qa), .second, .val (.long qb), .second, .val (.int im), .val (.long fr), .second, .val (.long ((9223372036854775807 : Int64) - fr)), .second, .unset, .unset, .val (.int md), .unset, .unset, .unset, .unset, .unset, .unset] [(.int md)])
    refine Go.step (fun _ k => XS.iconst X0.here hx rfl (hb hby at_46) k) ?_
    show Go _ _ _ _ _ _ _ s₁ (mkF m 47 #[.val (.long qa), .second, .val (.long qb), .second, .val (.int im), .val (.long fr), .second, .val (.long ((9223372036854775807 : Int64) - fr)), .second, .unset, .unset, .val (.int md), .unset, .unset, .unset, .unset, .unset, .unset] [(.int (2 : Int32)), (.int md)])
    by_cases hc47_9 : md = (2 : Int32)
    · refine Go.step (fun _ k => XS.icmpNo X0.here hx rfl (hb hby at_47) rfl (teq hc47_9).2 k) ?_
      show Go _ _ _ _ _ _ _ s₁ (mkF m 50 #[.val (.long qa), .second, .val (.long qb), .second, .val (.int im), .val (.long fr), .second, .val (.long ((9223372036854775807 : Int64) - fr)), .second, .unset, .unset, .val (.int md), .unset, .unset, .unset, .unset, .unset, .unset] [])
      refine Go.step (fun _ k => XS.lload X0.here hx rfl (hb hby at_50) rfl k) ?_
      show Go _ _ _ _ _ _ _ s₁ (mkF m 52 #[.val (.long qa), .second, .val (.long qb), .second, .val (.int im), .val (.long fr), .second, .val (.long ((9223372036854775807 : Int64) - fr)), .second, .unset, .unset, .val (.int md), .unset, .unset, .unset, .unset, .unset, .unset] [(.long ((9223372036854775807 : Int64) - fr))])
      refine Go.step (X0.ldc2Long hx hown (mvT hZ (hw _ (List.mem_of_getElem? (i := 0) rfl))) (g := (mkF m 52 #[.val (.long qa), .second, .val (.long qb), .second, .val (.int im), .val (.long fr), .second, .val (.long ((9223372036854775807 : Int64) - fr)), .second, .unset, .unset, .val (.int md), .unset, .unset, .unset, .unset, .unset, .unset] [(.long ((9223372036854775807 : Int64) - fr))])) rfl (hb hby at_52)) ?_
      show Go _ _ _ _ _ _ _ s₁ (mkF m 55 #[.val (.long qa), .second, .val (.long qb), .second, .val (.int im), .val (.long fr), .second, .val (.long ((9223372036854775807 : Int64) - fr)), .second, .unset, .unset, .val (.int md), .unset, .unset, .unset, .unset, .unset, .unset] [(.long (9223372036854775807 : Int64)), (.long ((9223372036854775807 : Int64) - fr))])
      refine Go.step (fun _ k => XS.lcmp X0.here hx rfl (hb hby at_55) rfl k) ?_
      show Go _ _ _ _ _ _ _ s₁ (mkF m 56 #[.val (.long qa), .second, .val (.long qb), .second, .val (.int im), .val (.long fr), .second, .val (.long ((9223372036854775807 : Int64) - fr)), .second, .unset, .unset, .val (.int md), .unset, .unset, .unset, .unset, .unset, .unset] [(.int (lcmpW ((9223372036854775807 : Int64) - fr) (9223372036854775807 : Int64)))])
      by_cases hc56_10 : ((9223372036854775807 : Int64) - fr) = (9223372036854775807 : Int64)
      · refine Go.step (fun _ k => XS.ifNo X0.here hx rfl (hb hby at_56) rfl ((if0 _ _).trans (teq ((lw_eq _ _).mpr hc56_10)).2) k) ?_
        show Go _ _ _ _ _ _ _ s₁ (mkF m 59 #[.val (.long qa), .second, .val (.long qb), .second, .val (.int im), .val (.long fr), .second, .val (.long ((9223372036854775807 : Int64) - fr)), .second, .unset, .unset, .val (.int md), .unset, .unset, .unset, .unset, .unset, .unset] [])
        refine Go.step (fun _ k => XS.lload X0.here hx rfl (hb hby at_59) rfl k) ?_
        show Go _ _ _ _ _ _ _ s₁ (mkF m 61 #[.val (.long qa), .second, .val (.long qb), .second, .val (.int im), .val (.long fr), .second, .val (.long ((9223372036854775807 : Int64) - fr)), .second, .unset, .unset, .val (.int md), .unset, .unset, .unset, .unset, .unset, .unset] [(.long ((9223372036854775807 : Int64) - fr))])
        refine Go.step (fun _ k => XS.goto X0.here hx rfl (pc0 := 61) (pc' := 68) rfl (hb hby at_61) (by decide) (by decide) k) ?_
        show Go _ _ _ _ _ _ _ s₁ (mkF m 68 #[.val (.long qa), .second, .val (.long qb), .second, .val (.int im), .val (.long fr), .second, .val (.long ((9223372036854775807 : Int64) - fr)), .second, .unset, .unset, .val (.int md), .unset, .unset, .unset, .unset, .unset, .unset] [(.long ((9223372036854775807 : Int64) - fr))])
        refine Go.step (fun _ k => XS.lstore X0.here hx rfl (hb hby at_68) rfl (l' := #[.val (.long qa), .second, .val (.long qb), .second, .val (.int im), .val (.long fr), .second, .val (.long ((9223372036854775807 : Int64) - fr)), .second, .val (.long ((9223372036854775807 : Int64) - fr)), .second, .val (.int md), .unset, .unset, .unset, .unset, .unset, .unset]) rfl k) ?_
        show Go _ _ _ _ _ _ _ s₁ (mkF m 70 #[.val (.long qa), .second, .val (.long qb), .second, .val (.int im), .val (.long fr), .second, .val (.long ((9223372036854775807 : Int64) - fr)), .second, .val (.long ((9223372036854775807 : Int64) - fr)), .second, .val (.int md), .unset, .unset, .unset, .unset, .unset, .unset] [])
        refine Go.step (fun _ k => XS.goto X0.here hx rfl (pc0 := 70) (pc' := 80) rfl (hb hby at_70) (by decide) (by decide) k) ?_
        show Go _ _ _ _ _ _ _ s₁ (mkF m 80 #[.val (.long qa), .second, .val (.long qb), .second, .val (.int im), .val (.long fr), .second, .val (.long ((9223372036854775807 : Int64) - fr)), .second, .val (.long ((9223372036854775807 : Int64) - fr)), .second, .val (.int md), .unset, .unset, .unset, .unset, .unset, .unset] [])
        have b1 : ¬ (((9223372036854775807 : Int64) - fr) < (0 : Int64)) := own_b2 _ b0
        generalize ((9223372036854775807 : Int64) - fr) = nn at b1 ⊢
        show Go _ _ _ _ _ _ _ s₁ (mkF m 80 #[.val (.long qa), .second, .val (.long qb), .second, .val (.int im), .val (.long fr), .second, .val (.long nn), .second, .val (.long nn), .second, .val (.int md), .unset, .unset, .unset, .unset, .unset, .unset] [])
        refine Go.step (fun _ k => XS.lload X0.here hx rfl (hb hby at_80) rfl k) ?_
        show Go _ _ _ _ _ _ _ s₁ (mkF m 82 #[.val (.long qa), .second, .val (.long qb), .second, .val (.int im), .val (.long fr), .second, .val (.long nn), .second, .val (.long nn), .second, .val (.int md), .unset, .unset, .unset, .unset, .unset, .unset] [(.long fr)])
        refine Go.step (fun _ k => XS.lload X0.here hx rfl (hb hby at_82) rfl k) ?_
        show Go _ _ _ _ _ _ _ s₁ (mkF m 84 #[.val (.long qa), .second, .val (.long qb), .second, .val (.int im), .val (.long fr), .second, .val (.long nn), .second, .val (.long nn), .second, .val (.int md), .unset, .unset, .unset, .unset, .unset, .unset] [(.long nn), (.long fr)])
        obtain ⟨_, _, ⟨T11, L11, k11, n11⟩, -, X11, ⟨Lc11, hQ11, l11, y11, z11⟩, st11⟩ := Jvm.LawKit.callS X0 hx (y := (⟨"com/example/moving_ceiling/movingceiling/model/OverloadModel", "after", "(JJ)J"⟩ : MethodName)) hown (mvT hZ (hw _ (List.mem_of_getElem? (i := 1) rfl))) (mvT hZ (hw _ (List.mem_of_getElem? (i := 2) rfl))) (mvT hZ (hw _ (List.mem_of_getElem? (i := 3) rfl))) (mvT hZ (hw _ (List.mem_of_getElem? (i := 4) rfl))) (by decide) (backOf (W := 0) (rm1 l Z a0 hw [] fr nn h0 n0 Z0 ) hZ (hw _ (List.mem_of_getElem? (i := 4) rfl)) (hw _ (List.mem_of_getElem? (i := 3) rfl)) (by decide) (by decide)) (g := (mkF m 84 #[.val (.long qa), .second, .val (.long qb), .second, .val (.int im), .val (.long fr), .second, .val (.long nn), .second, .val (.long nn), .second, .val (.int md), .unset, .unset, .unset, .unset, .unset, .unset] [(.long nn), (.long fr)])) rfl (by rw [hml]; rfl) (argsL := [(.long fr), (.long nn)]) (rest := []) (lenOf pd__JJ_J rfl) rfl (by show 2 * 0 + _ ≤ _; exact Nat.le_of_eq rfl) (hb hby at_84) (fun _ _ => ⟨rfl, e0, (by decide : 0 + 0 ≤ _), (by decide : 0 + 0 ≤ _)⟩)
        dsimp only [Pt.U, Pt.locs, Pt.cells, Pt.slots] at X11 l11 y11 z11 st11 hQ11
        subst l11 y11 z11
        obtain ⟨h11, e11⟩ : ∃ h, T11.heap = h := ⟨_, rfl⟩
        rw [e11] at hQ11
        obtain ⟨rfl, Nq11, hs11⟩ := hQ11
        have N11 := Fr.app N0 Nq11
        rw [hs11] at e11
        refine Go.step st11 ?_
        show Go _ _ _ _ _ _ _ T11 (mkF m 87 #[.val (.long qa), .second, .val (.long qb), .second, .val (.int im), .val (.long fr), .second, .val (.long nn), .second, .val (.long nn), .second, .val (.int md), .unset, .unset, .unset, .unset, .unset, .unset] [(.long (own_after fr nn))])
        refine Go.step (fun _ k => XS.lstore X11.here hx rfl (hb hby at_87) rfl (l' := #[.val (.long qa), .second, .val (.long qb), .second, .val (.int im), .val (.long fr), .second, .val (.long nn), .second, .val (.long nn), .second, .val (.int md), .val (.long (own_after fr nn)), .second, .unset, .unset, .unset, .unset]) rfl k) ?_
        show Go _ _ _ _ _ _ _ T11 (mkF m 89 #[.val (.long qa), .second, .val (.long qb), .second, .val (.int im), .val (.long fr), .second, .val (.long nn), .second, .val (.long nn), .second, .val (.int md), .val (.long (own_after fr nn)), .second, .unset, .unset, .unset, .unset] [])
        refine Go.step (fun _ k => XS.lload X11.here hx rfl (hb hby at_89) rfl k) ?_
        show Go _ _ _ _ _ _ _ T11 (mkF m 91 #[.val (.long qa), .second, .val (.long qb), .second, .val (.int im), .val (.long fr), .second, .val (.long nn), .second, .val (.long nn), .second, .val (.int md), .val (.long (own_after fr nn)), .second, .unset, .unset, .unset, .unset] [(.long fr)])
        refine Go.step (fun _ k => XS.lload X11.here hx rfl (hb hby at_91) rfl k) ?_
        show Go _ _ _ _ _ _ _ T11 (mkF m 93 #[.val (.long qa), .second, .val (.long qb), .second, .val (.int im), .val (.long fr), .second, .val (.long nn), .second, .val (.long nn), .second, .val (.int md), .val (.long (own_after fr nn)), .second, .unset, .unset, .unset, .unset] [(.long nn), (.long fr)])
        refine Go.step (fun _ k => XS.ladd X11.here hx rfl (hb hby at_93) rfl k) ?_
        show Go _ _ _ _ _ _ _ T11 (mkF m 94 #[.val (.long qa), .second, .val (.long qb), .second, .val (.int im), .val (.long fr), .second, .val (.long nn), .second, .val (.long nn), .second, .val (.int md), .val (.long (own_after fr nn)), .second, .unset, .unset, .unset, .unset] [(.long (fr + nn))])
        refine Go.step (fun _ k => XS.lstore X11.here hx rfl (hb hby at_94) rfl (l' := #[.val (.long qa), .second, .val (.long qb), .second, .val (.int im), .val (.long fr), .second, .val (.long nn), .second, .val (.long nn), .second, .val (.int md), .val (.long (own_after fr nn)), .second, .val (.long (fr + nn)), .second, .unset, .unset]) rfl k) ?_
        show Go _ _ _ _ _ _ _ T11 (mkF m 96 #[.val (.long qa), .second, .val (.long qb), .second, .val (.int im), .val (.long fr), .second, .val (.long nn), .second, .val (.long nn), .second, .val (.int md), .val (.long (own_after fr nn)), .second, .val (.long (fr + nn)), .second, .unset, .unset] [])
        refine Go.step (fun _ k => XS.lload X11.here hx rfl (hb hby at_96) rfl k) ?_
        show Go _ _ _ _ _ _ _ T11 (mkF m 98 #[.val (.long qa), .second, .val (.long qb), .second, .val (.int im), .val (.long fr), .second, .val (.long nn), .second, .val (.long nn), .second, .val (.int md), .val (.long (own_after fr nn)), .second, .val (.long (fr + nn)), .second, .unset, .unset] [(.long (fr + nn))])
        refine Go.step (fun _ k => XS.lconst X11.here hx rfl (hb hby at_98) k) ?_
        show Go _ _ _ _ _ _ _ T11 (mkF m 99 #[.val (.long qa), .second, .val (.long qb), .second, .val (.int im), .val (.long fr), .second, .val (.long nn), .second, .val (.long nn), .second, .val (.int md), .val (.long (own_after fr nn)), .second, .val (.long (fr + nn)), .second, .unset, .unset] [(.long (0 : Int64)), (.long (fr + nn))])
        refine Go.step (fun _ k => XS.lcmp X11.here hx rfl (hb hby at_99) rfl k) ?_
        show Go _ _ _ _ _ _ _ T11 (mkF m 100 #[.val (.long qa), .second, .val (.long qb), .second, .val (.int im), .val (.long fr), .second, .val (.long nn), .second, .val (.long nn), .second, .val (.int md), .val (.long (own_after fr nn)), .second, .val (.long (fr + nn)), .second, .unset, .unset] [(.int (lcmpW (fr + nn) (0 : Int64)))])
        by_cases hc100_12 : (fr + nn) < (0 : Int64)
        · refine Go.step (fun _ k => XS.ifNo X11.here hx rfl (hb hby at_100) rfl ((if0 _ _).trans (tlt ((lw_lt _ _).mpr hc100_12)).2.1) k) ?_
          show Go _ _ _ _ _ _ _ T11 (mkF m 103 #[.val (.long qa), .second, .val (.long qb), .second, .val (.int im), .val (.long fr), .second, .val (.long nn), .second, .val (.long nn), .second, .val (.int md), .val (.long (own_after fr nn)), .second, .val (.long (fr + nn)), .second, .unset, .unset] [])
          refine Go.step (X11.ldc2Long hx hown (mvT hZ (hw _ (List.mem_of_getElem? (i := 0) rfl))) (g := (mkF m 103 #[.val (.long qa), .second, .val (.long qb), .second, .val (.int im), .val (.long fr), .second, .val (.long nn), .second, .val (.long nn), .second, .val (.int md), .val (.long (own_after fr nn)), .second, .val (.long (fr + nn)), .second, .unset, .unset] [])) rfl (hb hby at_103)) ?_
          show Go _ _ _ _ _ _ _ T11 (mkF m 106 #[.val (.long qa), .second, .val (.long qb), .second, .val (.int im), .val (.long fr), .second, .val (.long nn), .second, .val (.long nn), .second, .val (.int md), .val (.long (own_after fr nn)), .second, .val (.long (fr + nn)), .second, .unset, .unset] [(.long (9223372036854775807 : Int64))])
          refine Go.step (fun _ k => XS.goto X11.here hx rfl (pc0 := 106) (pc' := 111) rfl (hb hby at_106) (by decide) (by decide) k) ?_
          show Go _ _ _ _ _ _ _ T11 (mkF m 111 #[.val (.long qa), .second, .val (.long qb), .second, .val (.int im), .val (.long fr), .second, .val (.long nn), .second, .val (.long nn), .second, .val (.int md), .val (.long (own_after fr nn)), .second, .val (.long (fr + nn)), .second, .unset, .unset] [(.long (9223372036854775807 : Int64))])
          refine Go.step (fun _ k => XS.lstore X11.here hx rfl (hb hby at_111) rfl (l' := #[.val (.long qa), .second, .val (.long qb), .second, .val (.int im), .val (.long fr), .second, .val (.long nn), .second, .val (.long nn), .second, .val (.int md), .val (.long (own_after fr nn)), .second, .val (.long (fr + nn)), .second, .val (.long (9223372036854775807 : Int64)), .second]) rfl k) ?_
          show Go _ _ _ _ _ _ _ T11 (mkF m 113 #[.val (.long qa), .second, .val (.long qb), .second, .val (.int im), .val (.long fr), .second, .val (.long nn), .second, .val (.long nn), .second, .val (.int md), .val (.long (own_after fr nn)), .second, .val (.long (fr + nn)), .second, .val (.long (9223372036854775807 : Int64)), .second] [])
          refine Go.step (fun _ k => XS.lload X11.here hx rfl (hb hby at_113) rfl k) ?_
          show Go _ _ _ _ _ _ _ T11 (mkF m 115 #[.val (.long qa), .second, .val (.long qb), .second, .val (.int im), .val (.long fr), .second, .val (.long nn), .second, .val (.long nn), .second, .val (.int md), .val (.long (own_after fr nn)), .second, .val (.long (fr + nn)), .second, .val (.long (9223372036854775807 : Int64)), .second] [(.long (own_after fr nn))])
          refine Go.step (fun _ k => XS.lload X11.here hx rfl (hb hby at_115) rfl k) ?_
          show Go _ _ _ _ _ _ _ T11 (mkF m 117 #[.val (.long qa), .second, .val (.long qb), .second, .val (.int im), .val (.long fr), .second, .val (.long nn), .second, .val (.long nn), .second, .val (.int md), .val (.long (own_after fr nn)), .second, .val (.long (fr + nn)), .second, .val (.long (9223372036854775807 : Int64)), .second] [(.long (9223372036854775807 : Int64)), (.long (own_after fr nn))])
          refine Go.step (fun _ k => XS.lcmp X11.here hx rfl (hb hby at_117) rfl k) ?_
          show Go _ _ _ _ _ _ _ T11 (mkF m 118 #[.val (.long qa), .second, .val (.long qb), .second, .val (.int im), .val (.long fr), .second, .val (.long nn), .second, .val (.long nn), .second, .val (.int md), .val (.long (own_after fr nn)), .second, .val (.long (fr + nn)), .second, .val (.long (9223372036854775807 : Int64)), .second] [(.int (lcmpW (own_after fr nn) (9223372036854775807 : Int64)))])
          have hc118_13 : (own_after fr nn) = (9223372036854775807 : Int64) := own_f1 _ _ b0 b1 hc100_12
          refine Go.step (fun _ k => XS.ifNo X11.here hx rfl (hb hby at_118) rfl ((if0 _ _).trans (teq ((lw_eq _ _).mpr hc118_13)).2) k) ?_
          show Go _ _ _ _ _ _ _ T11 (mkF m 121 #[.val (.long qa), .second, .val (.long qb), .second, .val (.int im), .val (.long fr), .second, .val (.long nn), .second, .val (.long nn), .second, .val (.int md), .val (.long (own_after fr nn)), .second, .val (.long (fr + nn)), .second, .val (.long (9223372036854775807 : Int64)), .second] [])
          refine Go.step (fun _ k => XS.iconst X11.here hx rfl (hb hby at_121) k) ?_
          show Go _ _ _ _ _ _ _ T11 (mkF m 122 #[.val (.long qa), .second, .val (.long qb), .second, .val (.int im), .val (.long fr), .second, .val (.long nn), .second, .val (.long nn), .second, .val (.int md), .val (.long (own_after fr nn)), .second, .val (.long (fr + nn)), .second, .val (.long (9223372036854775807 : Int64)), .second] [(.int (1 : Int32))])
          refine Go.step (fun _ k => XS.goto X11.here hx rfl (pc0 := 122) (pc' := 126) rfl (hb hby at_122) (by decide) (by decide) k) ?_
          show Go _ _ _ _ _ _ _ T11 (mkF m 126 #[.val (.long qa), .second, .val (.long qb), .second, .val (.int im), .val (.long fr), .second, .val (.long nn), .second, .val (.long nn), .second, .val (.int md), .val (.long (own_after fr nn)), .second, .val (.long (fr + nn)), .second, .val (.long (9223372036854775807 : Int64)), .second] [(.int (1 : Int32))])
          exact Go.retN X11 hx (t := .boolean) hret hlk (by simp) (hb hby at_126) e11 (by decide) (by decide) ⟨rfl, N11, trivial⟩
        · refine Go.step (fun _ k => XS.ifYes X11.here hx rfl (pc0 := 100) (pc' := 109) rfl (hb hby at_100) rfl ((if0 _ _).trans (flt (mt (lw_lt _ _).mp hc100_12)).2.1) (by decide) (by decide) k) ?_
          show Go _ _ _ _ _ _ _ T11 (mkF m 109 #[.val (.long qa), .second, .val (.long qb), .second, .val (.int im), .val (.long fr), .second, .val (.long nn), .second, .val (.long nn), .second, .val (.int md), .val (.long (own_after fr nn)), .second, .val (.long (fr + nn)), .second, .unset, .unset] [])
          refine Go.step (fun _ k => XS.lload X11.here hx rfl (hb hby at_109) rfl k) ?_
          show Go _ _ _ _ _ _ _ T11 (mkF m 111 #[.val (.long qa), .second, .val (.long qb), .second, .val (.int im), .val (.long fr), .second, .val (.long nn), .second, .val (.long nn), .second, .val (.int md), .val (.long (own_after fr nn)), .second, .val (.long (fr + nn)), .second, .unset, .unset] [(.long (fr + nn))])
          refine Go.step (fun _ k => XS.lstore X11.here hx rfl (hb hby at_111) rfl (l' := #[.val (.long qa), .second, .val (.long qb), .second, .val (.int im), .val (.long fr), .second, .val (.long nn), .second, .val (.long nn), .second, .val (.int md), .val (.long (own_after fr nn)), .second, .val (.long (fr + nn)), .second, .val (.long (fr + nn)), .second]) rfl k) ?_
          show Go _ _ _ _ _ _ _ T11 (mkF m 113 #[.val (.long qa), .second, .val (.long qb), .second, .val (.int im), .val (.long fr), .second, .val (.long nn), .second, .val (.long nn), .second, .val (.int md), .val (.long (own_after fr nn)), .second, .val (.long (fr + nn)), .second, .val (.long (fr + nn)), .second] [])
          refine Go.step (fun _ k => XS.lload X11.here hx rfl (hb hby at_113) rfl k) ?_
          show Go _ _ _ _ _ _ _ T11 (mkF m 115 #[.val (.long qa), .second, .val (.long qb), .second, .val (.int im), .val (.long fr), .second, .val (.long nn), .second, .val (.long nn), .second, .val (.int md), .val (.long (own_after fr nn)), .second, .val (.long (fr + nn)), .second, .val (.long (fr + nn)), .second] [(.long (own_after fr nn))])
          refine Go.step (fun _ k => XS.lload X11.here hx rfl (hb hby at_115) rfl k) ?_
          show Go _ _ _ _ _ _ _ T11 (mkF m 117 #[.val (.long qa), .second, .val (.long qb), .second, .val (.int im), .val (.long fr), .second, .val (.long nn), .second, .val (.long nn), .second, .val (.int md), .val (.long (own_after fr nn)), .second, .val (.long (fr + nn)), .second, .val (.long (fr + nn)), .second] [(.long (fr + nn)), (.long (own_after fr nn))])
          refine Go.step (fun _ k => XS.lcmp X11.here hx rfl (hb hby at_117) rfl k) ?_
          show Go _ _ _ _ _ _ _ T11 (mkF m 118 #[.val (.long qa), .second, .val (.long qb), .second, .val (.int im), .val (.long fr), .second, .val (.long nn), .second, .val (.long nn), .second, .val (.int md), .val (.long (own_after fr nn)), .second, .val (.long (fr + nn)), .second, .val (.long (fr + nn)), .second] [(.int (lcmpW (own_after fr nn) (fr + nn)))])
          have hc118_14 : (own_after fr nn) = (fr + nn) := own_f2 _ _ b0 b1 hc100_12
          refine Go.step (fun _ k => XS.ifNo X11.here hx rfl (hb hby at_118) rfl ((if0 _ _).trans (teq ((lw_eq _ _).mpr hc118_14)).2) k) ?_
          show Go _ _ _ _ _ _ _ T11 (mkF m 121 #[.val (.long qa), .second, .val (.long qb), .second, .val (.int im), .val (.long fr), .second, .val (.long nn), .second, .val (.long nn), .second, .val (.int md), .val (.long (own_after fr nn)), .second, .val (.long (fr + nn)), .second, .val (.long (fr + nn)), .second] [])
          refine Go.step (fun _ k => XS.iconst X11.here hx rfl (hb hby at_121) k) ?_
          show Go _ _ _ _ _ _ _ T11 (mkF m 122 #[.val (.long qa), .second, .val (.long qb), .second, .val (.int im), .val (.long fr), .second, .val (.long nn), .second, .val (.long nn), .second, .val (.int md), .val (.long (own_after fr nn)), .second, .val (.long (fr + nn)), .second, .val (.long (fr + nn)), .second] [(.int (1 : Int32))])
          refine Go.step (fun _ k => XS.goto X11.here hx rfl (pc0 := 122) (pc' := 126) rfl (hb hby at_122) (by decide) (by decide) k) ?_
          show Go _ _ _ _ _ _ _ T11 (mkF m 126 #[.val (.long qa), .second, .val (.long qb), .second, .val (.int im), .val (.long fr), .second, .val (.long nn), .second, .val (.long nn), .second, .val (.int md), .val (.long (own_after fr nn)), .second, .val (.long (fr + nn)), .second, .val (.long (fr + nn)), .second] [(.int (1 : Int32))])
          exact Go.retN X11 hx (t := .boolean) hret hlk (by simp) (hb hby at_126) e11 (by decide) (by decide) ⟨rfl, N11, trivial⟩
      · refine Go.step (fun _ k => XS.ifYes X0.here hx rfl (pc0 := 56) (pc' := 64) rfl (hb hby at_56) rfl ((if0 _ _).trans (feq (mt (lw_eq _ _).mp hc56_10)).2) (by decide) (by decide) k) ?_
        show Go _ _ _ _ _ _ _ s₁ (mkF m 64 #[.val (.long qa), .second, .val (.long qb), .second, .val (.int im), .val (.long fr), .second, .val (.long ((9223372036854775807 : Int64) - fr)), .second, .unset, .unset, .val (.int md), .unset, .unset, .unset, .unset, .unset, .unset] [])
        refine Go.step (fun _ k => XS.lload X0.here hx rfl (hb hby at_64) rfl k) ?_
        show Go _ _ _ _ _ _ _ s₁ (mkF m 66 #[.val (.long qa), .second, .val (.long qb), .second, .val (.int im), .val (.long fr), .second, .val (.long ((9223372036854775807 : Int64) - fr)), .second, .unset, .unset, .val (.int md), .unset, .unset, .unset, .unset, .unset, .unset] [(.long ((9223372036854775807 : Int64) - fr))])
        refine Go.step (fun _ k => XS.lconst X0.here hx rfl (hb hby at_66) k) ?_
        show Go _ _ _ _ _ _ _ s₁ (mkF m 67 #[.val (.long qa), .second, .val (.long qb), .second, .val (.int im), .val (.long fr), .second, .val (.long ((9223372036854775807 : Int64) - fr)), .second, .unset, .unset, .val (.int md), .unset, .unset, .unset, .unset, .unset, .unset] [(.long (1 : Int64)), (.long ((9223372036854775807 : Int64) - fr))])
        refine Go.step (fun _ k => XS.ladd X0.here hx rfl (hb hby at_67) rfl k) ?_
        show Go _ _ _ _ _ _ _ s₁ (mkF m 68 #[.val (.long qa), .second, .val (.long qb), .second, .val (.int im), .val (.long fr), .second, .val (.long ((9223372036854775807 : Int64) - fr)), .second, .unset, .unset, .val (.int md), .unset, .unset, .unset, .unset, .unset, .unset] [(.long (((9223372036854775807 : Int64) - fr) + (1 : Int64)))])
        refine Go.step (fun _ k => XS.lstore X0.here hx rfl (hb hby at_68) rfl (l' := #[.val (.long qa), .second, .val (.long qb), .second, .val (.int im), .val (.long fr), .second, .val (.long ((9223372036854775807 : Int64) - fr)), .second, .val (.long (((9223372036854775807 : Int64) - fr) + (1 : Int64))), .second, .val (.int md), .unset, .unset, .unset, .unset, .unset, .unset]) rfl k) ?_
        show Go _ _ _ _ _ _ _ s₁ (mkF m 70 #[.val (.long qa), .second, .val (.long qb), .second, .val (.int im), .val (.long fr), .second, .val (.long ((9223372036854775807 : Int64) - fr)), .second, .val (.long (((9223372036854775807 : Int64) - fr) + (1 : Int64))), .second, .val (.int md), .unset, .unset, .unset, .unset, .unset, .unset] [])
        refine Go.step (fun _ k => XS.goto X0.here hx rfl (pc0 := 70) (pc' := 80) rfl (hb hby at_70) (by decide) (by decide) k) ?_
        show Go _ _ _ _ _ _ _ s₁ (mkF m 80 #[.val (.long qa), .second, .val (.long qb), .second, .val (.int im), .val (.long fr), .second, .val (.long ((9223372036854775807 : Int64) - fr)), .second, .val (.long (((9223372036854775807 : Int64) - fr) + (1 : Int64))), .second, .val (.int md), .unset, .unset, .unset, .unset, .unset, .unset] [])
        have b1 : ¬ ((((9223372036854775807 : Int64) - fr) + (1 : Int64)) < (0 : Int64)) := own_b3 _ b0 hc56_10
        generalize (((9223372036854775807 : Int64) - fr) + (1 : Int64)) = nn at b1 ⊢
        show Go _ _ _ _ _ _ _ s₁ (mkF m 80 #[.val (.long qa), .second, .val (.long qb), .second, .val (.int im), .val (.long fr), .second, .val (.long ((9223372036854775807 : Int64) - fr)), .second, .val (.long nn), .second, .val (.int md), .unset, .unset, .unset, .unset, .unset, .unset] [])
        refine Go.step (fun _ k => XS.lload X0.here hx rfl (hb hby at_80) rfl k) ?_
        show Go _ _ _ _ _ _ _ s₁ (mkF m 82 #[.val (.long qa), .second, .val (.long qb), .second, .val (.int im), .val (.long fr), .second, .val (.long ((9223372036854775807 : Int64) - fr)), .second, .val (.long nn), .second, .val (.int md), .unset, .unset, .unset, .unset, .unset, .unset] [(.long fr)])
        refine Go.step (fun _ k => XS.lload X0.here hx rfl (hb hby at_82) rfl k) ?_
        show Go _ _ _ _ _ _ _ s₁ (mkF m 84 #[.val (.long qa), .second, .val (.long qb), .second, .val (.int im), .val (.long fr), .second, .val (.long ((9223372036854775807 : Int64) - fr)), .second, .val (.long nn), .second, .val (.int md), .unset, .unset, .unset, .unset, .unset, .unset] [(.long nn), (.long fr)])
        obtain ⟨_, _, ⟨T15, L15, k15, n15⟩, -, X15, ⟨Lc15, hQ15, l15, y15, z15⟩, st15⟩ := Jvm.LawKit.callS X0 hx (y := (⟨"com/example/moving_ceiling/movingceiling/model/OverloadModel", "after", "(JJ)J"⟩ : MethodName)) hown (mvT hZ (hw _ (List.mem_of_getElem? (i := 1) rfl))) (mvT hZ (hw _ (List.mem_of_getElem? (i := 2) rfl))) (mvT hZ (hw _ (List.mem_of_getElem? (i := 3) rfl))) (mvT hZ (hw _ (List.mem_of_getElem? (i := 4) rfl))) (by decide) (backOf (W := 0) (rm1 l Z a0 hw [] fr nn h0 n0 Z0 ) hZ (hw _ (List.mem_of_getElem? (i := 4) rfl)) (hw _ (List.mem_of_getElem? (i := 3) rfl)) (by decide) (by decide)) (g := (mkF m 84 #[.val (.long qa), .second, .val (.long qb), .second, .val (.int im), .val (.long fr), .second, .val (.long ((9223372036854775807 : Int64) - fr)), .second, .val (.long nn), .second, .val (.int md), .unset, .unset, .unset, .unset, .unset, .unset] [(.long nn), (.long fr)])) rfl (by rw [hml]; rfl) (argsL := [(.long fr), (.long nn)]) (rest := []) (lenOf pd__JJ_J rfl) rfl (by show 2 * 0 + _ ≤ _; exact Nat.le_of_eq rfl) (hb hby at_84) (fun _ _ => ⟨rfl, e0, (by decide : 0 + 0 ≤ _), (by decide : 0 + 0 ≤ _)⟩)
        dsimp only [Pt.U, Pt.locs, Pt.cells, Pt.slots] at X15 l15 y15 z15 st15 hQ15
        subst l15 y15 z15
        obtain ⟨h15, e15⟩ : ∃ h, T15.heap = h := ⟨_, rfl⟩
        rw [e15] at hQ15
        obtain ⟨rfl, Nq15, hs15⟩ := hQ15
        have N15 := Fr.app N0 Nq15
        rw [hs15] at e15
        refine Go.step st15 ?_
        show Go _ _ _ _ _ _ _ T15 (mkF m 87 #[.val (.long qa), .second, .val (.long qb), .second, .val (.int im), .val (.long fr), .second, .val (.long ((9223372036854775807 : Int64) - fr)), .second, .val (.long nn), .second, .val (.int md), .unset, .unset, .unset, .unset, .unset, .unset] [(.long (own_after fr nn))])
        refine Go.step (fun _ k => XS.lstore X15.here hx rfl (hb hby at_87) rfl (l' := #[.val (.long qa), .second, .val (.long qb), .second, .val (.int im), .val (.long fr), .second, .val (.long ((9223372036854775807 : Int64) - fr)), .second, .val (.long nn), .second, .val (.int md), .val (.long (own_after fr nn)), .second, .unset, .unset, .unset, .unset]) rfl k) ?_
        show Go _ _ _ _ _ _ _ T15 (mkF m 89 #[.val (.long qa), .second, .val (.long qb), .second, .val (.int im), .val (.long fr), .second, .val (.long ((9223372036854775807 : Int64) - fr)), .second, .val (.long nn), .second, .val (.int md), .val (.long (own_after fr nn)), .second, .unset, .unset, .unset, .unset] [])
        refine Go.step (fun _ k => XS.lload X15.here hx rfl (hb hby at_89) rfl k) ?_
        show Go _ _ _ _ _ _ _ T15 (mkF m 91 #[.val (.long qa), .second, .val (.long qb), .second, .val (.int im), .val (.long fr), .second, .val (.long ((9223372036854775807 : Int64) - fr)), .second, .val (.long nn), .second, .val (.int md), .val (.long (own_after fr nn)), .second, .unset, .unset, .unset, .unset] [(.long fr)])
        refine Go.step (fun _ k => XS.lload X15.here hx rfl (hb hby at_91) rfl k) ?_
        show Go _ _ _ _ _ _ _ T15 (mkF m 93 #[.val (.long qa), .second, .val (.long qb), .second, .val (.int im), .val (.long fr), .second, .val (.long ((9223372036854775807 : Int64) - fr)), .second, .val (.long nn), .second, .val (.int md), .val (.long (own_after fr nn)), .second, .unset, .unset, .unset, .unset] [(.long nn), (.long fr)])
        refine Go.step (fun _ k => XS.ladd X15.here hx rfl (hb hby at_93) rfl k) ?_
        show Go _ _ _ _ _ _ _ T15 (mkF m 94 #[.val (.long qa), .second, .val (.long qb), .second, .val (.int im), .val (.long fr), .second, .val (.long ((9223372036854775807 : Int64) - fr)), .second, .val (.long nn), .second, .val (.int md), .val (.long (own_after fr nn)), .second, .unset, .unset, .unset, .unset] [(.long (fr + nn))])
        refine Go.step (fun _ k => XS.lstore X15.here hx rfl (hb hby at_94) rfl (l' := #[.val (.long qa), .second, .val (.long qb), .second, .val (.int im), .val (.long fr), .second, .val (.long ((9223372036854775807 : Int64) - fr)), .second, .val (.long nn), .second, .val (.int md), .val (.long (own_after fr nn)), .second, .val (.long (fr + nn)), .second, .unset, .unset]) rfl k) ?_
        show Go _ _ _ _ _ _ _ T15 (mkF m 96 #[.val (.long qa), .second, .val (.long qb), .second, .val (.int im), .val (.long fr), .second, .val (.long ((9223372036854775807 : Int64) - fr)), .second, .val (.long nn), .second, .val (.int md), .val (.long (own_after fr nn)), .second, .val (.long (fr + nn)), .second, .unset, .unset] [])
        refine Go.step (fun _ k => XS.lload X15.here hx rfl (hb hby at_96) rfl k) ?_
        show Go _ _ _ _ _ _ _ T15 (mkF m 98 #[.val (.long qa), .second, .val (.long qb), .second, .val (.int im), .val (.long fr), .second, .val (.long ((9223372036854775807 : Int64) - fr)), .second, .val (.long nn), .second, .val (.int md), .val (.long (own_after fr nn)), .second, .val (.long (fr + nn)), .second, .unset, .unset] [(.long (fr + nn))])
        refine Go.step (fun _ k => XS.lconst X15.here hx rfl (hb hby at_98) k) ?_
        show Go _ _ _ _ _ _ _ T15 (mkF m 99 #[.val (.long qa), .second, .val (.long qb), .second, .val (.int im), .val (.long fr), .second, .val (.long ((9223372036854775807 : Int64) - fr)), .second, .val (.long nn), .second, .val (.int md), .val (.long (own_after fr nn)), .second, .val (.long (fr + nn)), .second, .unset, .unset] [(.long (0 : Int64)), (.long (fr + nn))])
        refine Go.step (fun _ k => XS.lcmp X15.here hx rfl (hb hby at_99) rfl k) ?_
        show Go _ _ _ _ _ _ _ T15 (mkF m 100 #[.val (.long qa), .second, .val (.long qb), .second, .val (.int im), .val (.long fr), .second, .val (.long ((9223372036854775807 : Int64) - fr)), .second, .val (.long nn), .second, .val (.int md), .val (.long (own_after fr nn)), .second, .val (.long (fr + nn)), .second, .unset, .unset] [(.int (lcmpW (fr + nn) (0 : Int64)))])
        by_cases hc100_16 : (fr + nn) < (0 : Int64)
        · refine Go.step (fun _ k => XS.ifNo X15.here hx rfl (hb hby at_100) rfl ((if0 _ _).trans (tlt ((lw_lt _ _).mpr hc100_16)).2.1) k) ?_
          show Go _ _ _ _ _ _ _ T15 (mkF m 103 #[.val (.long qa), .second, .val (.long qb), .second, .val (.int im), .val (.long fr), .second, .val (.long ((9223372036854775807 : Int64) - fr)), .second, .val (.long nn), .second, .val (.int md), .val (.long (own_after fr nn)), .second, .val (.long (fr + nn)), .second, .unset, .unset] [])
          refine Go.step (X15.ldc2Long hx hown (mvT hZ (hw _ (List.mem_of_getElem? (i := 0) rfl))) (g := (mkF m 103 #[.val (.long qa), .second, .val (.long qb), .second, .val (.int im), .val (.long fr), .second, .val (.long ((9223372036854775807 : Int64) - fr)), .second, .val (.long nn), .second, .val (.int md), .val (.long (own_after fr nn)), .second, .val (.long (fr + nn)), .second, .unset, .unset] [])) rfl (hb hby at_103)) ?_
          show Go _ _ _ _ _ _ _ T15 (mkF m 106 #[.val (.long qa), .second, .val (.long qb), .second, .val (.int im), .val (.long fr), .second, .val (.long ((9223372036854775807 : Int64) - fr)), .second, .val (.long nn), .second, .val (.int md), .val (.long (own_after fr nn)), .second, .val (.long (fr + nn)), .second, .unset, .unset] [(.long (9223372036854775807 : Int64))])
          refine Go.step (fun _ k => XS.goto X15.here hx rfl (pc0 := 106) (pc' := 111) rfl (hb hby at_106) (by decide) (by decide) k) ?_
          show Go _ _ _ _ _ _ _ T15 (mkF m 111 #[.val (.long qa), .second, .val (.long qb), .second, .val (.int im), .val (.long fr), .second, .val (.long ((9223372036854775807 : Int64) - fr)), .second, .val (.long nn), .second, .val (.int md), .val (.long (own_after fr nn)), .second, .val (.long (fr + nn)), .second, .unset, .unset] [(.long (9223372036854775807 : Int64))])
          refine Go.step (fun _ k => XS.lstore X15.here hx rfl (hb hby at_111) rfl (l' := #[.val (.long qa), .second, .val (.long qb), .second, .val (.int im), .val (.long fr), .second, .val (.long ((9223372036854775807 : Int64) - fr)), .second, .val (.long nn), .second, .val (.int md), .val (.long (own_after fr nn)), .second, .val (.long (fr + nn)), .second, .val (.long (9223372036854775807 : Int64)), .second]) rfl k) ?_
          show Go _ _ _ _ _ _ _ T15 (mkF m 113 #[.val (.long qa), .second, .val (.long qb), .second, .val (.int im), .val (.long fr), .second, .val (.long ((9223372036854775807 : Int64) - fr)), .second, .val (.long nn), .second, .val (.int md), .val (.long (own_after fr nn)), .second, .val (.long (fr + nn)), .second, .val (.long (9223372036854775807 : Int64)), .second] [])
          refine Go.step (fun _ k => XS.lload X15.here hx rfl (hb hby at_113) rfl k) ?_
          show Go _ _ _ _ _ _ _ T15 (mkF m 115 #[.val (.long qa), .second, .val (.long qb), .second, .val (.int im), .val (.long fr), .second, .val (.long ((9223372036854775807 : Int64) - fr)), .second, .val (.long nn), .second, .val (.int md), .val (.long (own_after fr nn)), .second, .val (.long (fr + nn)), .second, .val (.long (9223372036854775807 : Int64)), .second] [(.long (own_after fr nn))])
          refine Go.step (fun _ k => XS.lload X15.here hx rfl (hb hby at_115) rfl k) ?_
          show Go _ _ _ _ _ _ _ T15 (mkF m 117 #[.val (.long qa), .second, .val (.long qb), .second, .val (.int im), .val (.long fr), .second, .val (.long ((9223372036854775807 : Int64) - fr)), .second, .val (.long nn), .second, .val (.int md), .val (.long (own_after fr nn)), .second, .val (.long (fr + nn)), .second, .val (.long (9223372036854775807 : Int64)), .second] [(.long (9223372036854775807 : Int64)), (.long (own_after fr nn))])
          refine Go.step (fun _ k => XS.lcmp X15.here hx rfl (hb hby at_117) rfl k) ?_
          show Go _ _ _ _ _ _ _ T15 (mkF m 118 #[.val (.long qa), .second, .val (.long qb), .second, .val (.int im), .val (.long fr), .second, .val (.long ((9223372036854775807 : Int64) - fr)), .second, .val (.long nn), .second, .val (.int md), .val (.long (own_after fr nn)), .second, .val (.long (fr + nn)), .second, .val (.long (9223372036854775807 : Int64)), .second] [(.int (lcmpW (own_after fr nn) (9223372036854775807 : Int64)))])
          have hc118_17 : (own_after fr nn) = (9223372036854775807 : Int64) := own_f1 _ _ b0 b1 hc100_16
          refine Go.step (fun _ k => XS.ifNo X15.here hx rfl (hb hby at_118) rfl ((if0 _ _).trans (teq ((lw_eq _ _).mpr hc118_17)).2) k) ?_
          show Go _ _ _ _ _ _ _ T15 (mkF m 121 #[.val (.long qa), .second, .val (.long qb), .second, .val (.int im), .val (.long fr), .second, .val (.long ((9223372036854775807 : Int64) - fr)), .second, .val (.long nn), .second, .val (.int md), .val (.long (own_after fr nn)), .second, .val (.long (fr + nn)), .second, .val (.long (9223372036854775807 : Int64)), .second] [])
          refine Go.step (fun _ k => XS.iconst X15.here hx rfl (hb hby at_121) k) ?_
          show Go _ _ _ _ _ _ _ T15 (mkF m 122 #[.val (.long qa), .second, .val (.long qb), .second, .val (.int im), .val (.long fr), .second, .val (.long ((9223372036854775807 : Int64) - fr)), .second, .val (.long nn), .second, .val (.int md), .val (.long (own_after fr nn)), .second, .val (.long (fr + nn)), .second, .val (.long (9223372036854775807 : Int64)), .second] [(.int (1 : Int32))])
          refine Go.step (fun _ k => XS.goto X15.here hx rfl (pc0 := 122) (pc' := 126) rfl (hb hby at_122) (by decide) (by decide) k) ?_
          show Go _ _ _ _ _ _ _ T15 (mkF m 126 #[.val (.long qa), .second, .val (.long qb), .second, .val (.int im), .val (.long fr), .second, .val (.long ((9223372036854775807 : Int64) - fr)), .second, .val (.long nn), .second, .val (.int md), .val (.long (own_after fr nn)), .second, .val (.long (fr + nn)), .second, .val (.long (9223372036854775807 : Int64)), .second] [(.int (1 : Int32))])
          exact Go.retN X15 hx (t := .boolean) hret hlk (by simp) (hb hby at_126) e15 (by decide) (by decide) ⟨rfl, N15, trivial⟩
        · refine Go.step (fun _ k => XS.ifYes X15.here hx rfl (pc0 := 100) (pc' := 109) rfl (hb hby at_100) rfl ((if0 _ _).trans (flt (mt (lw_lt _ _).mp hc100_16)).2.1) (by decide) (by decide) k) ?_
          show Go _ _ _ _ _ _ _ T15 (mkF m 109 #[.val (.long qa), .second, .val (.long qb), .second, .val (.int im), .val (.long fr), .second, .val (.long ((9223372036854775807 : Int64) - fr)), .second, .val (.long nn), .second, .val (.int md), .val (.long (own_after fr nn)), .second, .val (.long (fr + nn)), .second, .unset, .unset] [])
          refine Go.step (fun _ k => XS.lload X15.here hx rfl (hb hby at_109) rfl k) ?_
          show Go _ _ _ _ _ _ _ T15 (mkF m 111 #[.val (.long qa), .second, .val (.long qb), .second, .val (.int im), .val (.long fr), .second, .val (.long ((9223372036854775807 : Int64) - fr)), .second, .val (.long nn), .second, .val (.int md), .val (.long (own_after fr nn)), .second, .val (.long (fr + nn)), .second, .unset, .unset] [(.long (fr + nn))])
          refine Go.step (fun _ k => XS.lstore X15.here hx rfl (hb hby at_111) rfl (l' := #[.val (.long qa), .second, .val (.long qb), .second, .val (.int im), .val (.long fr), .second, .val (.long ((9223372036854775807 : Int64) - fr)), .second, .val (.long nn), .second, .val (.int md), .val (.long (own_after fr nn)), .second, .val (.long (fr + nn)), .second, .val (.long (fr + nn)), .second]) rfl k) ?_
          show Go _ _ _ _ _ _ _ T15 (mkF m 113 #[.val (.long qa), .second, .val (.long qb), .second, .val (.int im), .val (.long fr), .second, .val (.long ((9223372036854775807 : Int64) - fr)), .second, .val (.long nn), .second, .val (.int md), .val (.long (own_after fr nn)), .second, .val (.long (fr + nn)), .second, .val (.long (fr + nn)), .second] [])
          refine Go.step (fun _ k => XS.lload X15.here hx rfl (hb hby at_113) rfl k) ?_
          show Go _ _ _ _ _ _ _ T15 (mkF m 115 #[.val (.long qa), .second, .val (.long qb), .second, .val (.int im), .val (.long fr), .second, .val (.long ((9223372036854775807 : Int64) - fr)), .second, .val (.long nn), .second, .val (.int md), .val (.long (own_after fr nn)), .second, .val (.long (fr + nn)), .second, .val (.long (fr + nn)), .second] [(.long (own_after fr nn))])
          refine Go.step (fun _ k => XS.lload X15.here hx rfl (hb hby at_115) rfl k) ?_
          show Go _ _ _ _ _ _ _ T15 (mkF m 117 #[.val (.long qa), .second, .val (.long qb), .second, .val (.int im), .val (.long fr), .second, .val (.long ((9223372036854775807 : Int64) - fr)), .second, .val (.long nn), .second, .val (.int md), .val (.long (own_after fr nn)), .second, .val (.long (fr + nn)), .second, .val (.long (fr + nn)), .second] [(.long (fr + nn)), (.long (own_after fr nn))])
          refine Go.step (fun _ k => XS.lcmp X15.here hx rfl (hb hby at_117) rfl k) ?_
          show Go _ _ _ _ _ _ _ T15 (mkF m 118 #[.val (.long qa), .second, .val (.long qb), .second, .val (.int im), .val (.long fr), .second, .val (.long ((9223372036854775807 : Int64) - fr)), .second, .val (.long nn), .second, .val (.int md), .val (.long (own_after fr nn)), .second, .val (.long (fr + nn)), .second, .val (.long (fr + nn)), .second] [(.int (lcmpW (own_after fr nn) (fr + nn)))])
          have hc118_18 : (own_after fr nn) = (fr + nn) := own_f2 _ _ b0 b1 hc100_16
          refine Go.step (fun _ k => XS.ifNo X15.here hx rfl (hb hby at_118) rfl ((if0 _ _).trans (teq ((lw_eq _ _).mpr hc118_18)).2) k) ?_
          show Go _ _ _ _ _ _ _ T15 (mkF m 121 #[.val (.long qa), .second, .val (.long qb), .second, .val (.int im), .val (.long fr), .second, .val (.long ((9223372036854775807 : Int64) - fr)), .second, .val (.long nn), .second, .val (.int md), .val (.long (own_after fr nn)), .second, .val (.long (fr + nn)), .second, .val (.long (fr + nn)), .second] [])
          refine Go.step (fun _ k => XS.iconst X15.here hx rfl (hb hby at_121) k) ?_
          show Go _ _ _ _ _ _ _ T15 (mkF m 122 #[.val (.long qa), .second, .val (.long qb), .second, .val (.int im), .val (.long fr), .second, .val (.long ((9223372036854775807 : Int64) - fr)), .second, .val (.long nn), .second, .val (.int md), .val (.long (own_after fr nn)), .second, .val (.long (fr + nn)), .second, .val (.long (fr + nn)), .second] [(.int (1 : Int32))])
          refine Go.step (fun _ k => XS.goto X15.here hx rfl (pc0 := 122) (pc' := 126) rfl (hb hby at_122) (by decide) (by decide) k) ?_
          show Go _ _ _ _ _ _ _ T15 (mkF m 126 #[.val (.long qa), .second, .val (.long qb), .second, .val (.int im), .val (.long fr), .second, .val (.long ((9223372036854775807 : Int64) - fr)), .second, .val (.long nn), .second, .val (.int md), .val (.long (own_after fr nn)), .second, .val (.long (fr + nn)), .second, .val (.long (fr + nn)), .second] [(.int (1 : Int32))])
          exact Go.retN X15 hx (t := .boolean) hret hlk (by simp) (hb hby at_126) e15 (by decide) (by decide) ⟨rfl, N15, trivial⟩
    · refine Go.step (fun _ k => XS.icmpYes X0.here hx rfl (pc0 := 47) (pc' := 73) rfl (hb hby at_47) rfl (feq hc47_9).2 (by decide) (by decide) k) ?_
      show Go _ _ _ _ _ _ _ s₁ (mkF m 73 #[.val (.long qa), .second, .val (.long qb), .second, .val (.int im), .val (.long fr), .second, .val (.long ((9223372036854775807 : Int64) - fr)), .second, .unset, .unset, .val (.int md), .unset, .unset, .unset, .unset, .unset, .unset] [])
      refine Go.step (fun _ k => XS.lloadN X0.here hx rfl (hb hby at_73) rfl k) ?_
      show Go _ _ _ _ _ _ _ s₁ (mkF m 74 #[.val (.long qa), .second, .val (.long qb), .second, .val (.int im), .val (.long fr), .second, .val (.long ((9223372036854775807 : Int64) - fr)), .second, .unset, .unset, .val (.int md), .unset, .unset, .unset, .unset, .unset, .unset] [(.long qb)])
      refine Go.step (X0.ldc2Long hx hown (mvT hZ (hw _ (List.mem_of_getElem? (i := 0) rfl))) (g := (mkF m 74 #[.val (.long qa), .second, .val (.long qb), .second, .val (.int im), .val (.long fr), .second, .val (.long ((9223372036854775807 : Int64) - fr)), .second, .unset, .unset, .val (.int md), .unset, .unset, .unset, .unset, .unset, .unset] [(.long qb)])) rfl (hb hby at_74)) ?_
      show Go _ _ _ _ _ _ _ s₁ (mkF m 77 #[.val (.long qa), .second, .val (.long qb), .second, .val (.int im), .val (.long fr), .second, .val (.long ((9223372036854775807 : Int64) - fr)), .second, .unset, .unset, .val (.int md), .unset, .unset, .unset, .unset, .unset, .unset] [(.long (9223372036854775807 : Int64)), (.long qb)])
      refine Go.step (fun _ k => XS.land X0.here hx rfl (hb hby at_77) rfl k) ?_
      show Go _ _ _ _ _ _ _ s₁ (mkF m 78 #[.val (.long qa), .second, .val (.long qb), .second, .val (.int im), .val (.long fr), .second, .val (.long ((9223372036854775807 : Int64) - fr)), .second, .unset, .unset, .val (.int md), .unset, .unset, .unset, .unset, .unset, .unset] [(.long (qb &&& (9223372036854775807 : Int64)))])
      refine Go.step (fun _ k => XS.lstore X0.here hx rfl (hb hby at_78) rfl (l' := #[.val (.long qa), .second, .val (.long qb), .second, .val (.int im), .val (.long fr), .second, .val (.long ((9223372036854775807 : Int64) - fr)), .second, .val (.long (qb &&& (9223372036854775807 : Int64))), .second, .val (.int md), .unset, .unset, .unset, .unset, .unset, .unset]) rfl k) ?_
      show Go _ _ _ _ _ _ _ s₁ (mkF m 80 #[.val (.long qa), .second, .val (.long qb), .second, .val (.int im), .val (.long fr), .second, .val (.long ((9223372036854775807 : Int64) - fr)), .second, .val (.long (qb &&& (9223372036854775807 : Int64))), .second, .val (.int md), .unset, .unset, .unset, .unset, .unset, .unset] [])
      have b1 : ¬ ((qb &&& (9223372036854775807 : Int64)) < (0 : Int64)) := (by have := rng64 qb; have : (9223372036854775807 : Int64).toInt = 9223372036854775807 := rfl; have := rng64 (qb &&& (9223372036854775807 : Int64)); have := c_maskL qb (9223372036854775807 : Int64) 63 (by decide) (by decide); have : (0 : Int64).toInt = 0 := rfl; simp only [Int32.lt_iff_toInt_lt, Int32.le_iff_toInt_le, ← Int32.toInt_inj, Int64.lt_iff_toInt_lt, Int64.le_iff_toInt_le, ← Int64.toInt_inj] at ⊢; omega)
      generalize (qb &&& (9223372036854775807 : Int64)) = nn at b1 ⊢
      show Go _ _ _ _ _ _ _ s₁ (mkF m 80 #[.val (.long qa), .second, .val (.long qb), .second, .val (.int im), .val (.long fr), .second, .val (.long ((9223372036854775807 : Int64) - fr)), .second, .val (.long nn), .second, .val (.int md), .unset, .unset, .unset, .unset, .unset, .unset] [])
      refine Go.step (fun _ k => XS.lload X0.here hx rfl (hb hby at_80) rfl k) ?_
      show Go _ _ _ _ _ _ _ s₁ (mkF m 82 #[.val (.long qa), .second, .val (.long qb), .second, .val (.int im), .val (.long fr), .second, .val (.long ((9223372036854775807 : Int64) - fr)), .second, .val (.long nn), .second, .val (.int md), .unset, .unset, .unset, .unset, .unset, .unset] [(.long fr)])
      refine Go.step (fun _ k => XS.lload X0.here hx rfl (hb hby at_82) rfl k) ?_
      show Go _ _ _ _ _ _ _ s₁ (mkF m 84 #[.val (.long qa), .second, .val (.long qb), .second, .val (.int im), .val (.long fr), .second, .val (.long ((9223372036854775807 : Int64) - fr)), .second, .val (.long nn), .second, .val (.int md), .unset, .unset, .unset, .unset, .unset, .unset] [(.long nn), (.long fr)])
      obtain ⟨_, _, ⟨T19, L19, k19, n19⟩, -, X19, ⟨Lc19, hQ19, l19, y19, z19⟩, st19⟩ := Jvm.LawKit.callS X0 hx (y := (⟨"com/example/moving_ceiling/movingceiling/model/OverloadModel", "after", "(JJ)J"⟩ : MethodName)) hown (mvT hZ (hw _ (List.mem_of_getElem? (i := 1) rfl))) (mvT hZ (hw _ (List.mem_of_getElem? (i := 2) rfl))) (mvT hZ (hw _ (List.mem_of_getElem? (i := 3) rfl))) (mvT hZ (hw _ (List.mem_of_getElem? (i := 4) rfl))) (by decide) (backOf (W := 0) (rm1 l Z a0 hw [] fr nn h0 n0 Z0 ) hZ (hw _ (List.mem_of_getElem? (i := 4) rfl)) (hw _ (List.mem_of_getElem? (i := 3) rfl)) (by decide) (by decide)) (g := (mkF m 84 #[.val (.long qa), .second, .val (.long qb), .second, .val (.int im), .val (.long fr), .second, .val (.long ((9223372036854775807 : Int64) - fr)), .second, .val (.long nn), .second, .val (.int md), .unset, .unset, .unset, .unset, .unset, .unset] [(.long nn), (.long fr)])) rfl (by rw [hml]; rfl) (argsL := [(.long fr), (.long nn)]) (rest := []) (lenOf pd__JJ_J rfl) rfl (by show 2 * 0 + _ ≤ _; exact Nat.le_of_eq rfl) (hb hby at_84) (fun _ _ => ⟨rfl, e0, (by decide : 0 + 0 ≤ _), (by decide : 0 + 0 ≤ _)⟩)
      dsimp only [Pt.U, Pt.locs, Pt.cells, Pt.slots] at X19 l19 y19 z19 st19 hQ19
      subst l19 y19 z19
      obtain ⟨h19, e19⟩ : ∃ h, T19.heap = h := ⟨_, rfl⟩
      rw [e19] at hQ19
      obtain ⟨rfl, Nq19, hs19⟩ := hQ19
      have N19 := Fr.app N0 Nq19
      rw [hs19] at e19
      refine Go.step st19 ?_
      show Go _ _ _ _ _ _ _ T19 (mkF m 87 #[.val (.long qa), .second, .val (.long qb), .second, .val (.int im), .val (.long fr), .second, .val (.long ((9223372036854775807 : Int64) - fr)), .second, .val (.long nn), .second, .val (.int md), .unset, .unset, .unset, .unset, .unset, .unset] [(.long (own_after fr nn))])
      refine Go.step (fun _ k => XS.lstore X19.here hx rfl (hb hby at_87) rfl (l' := #[.val (.long qa), .second, .val (.long qb), .second, .val (.int im), .val (.long fr), .second, .val (.long ((9223372036854775807 : Int64) - fr)), .second, .val (.long nn), .second, .val (.int md), .val (.long (own_after fr nn)), .second, .unset, .unset, .unset, .unset]) rfl k) ?_
      show Go _ _ _ _ _ _ _ T19 (mkF m 89 #[.val (.long qa), .second, .val (.long qb), .second, .val (.int im), .val (.long fr), .second, .val (.long ((9223372036854775807 : Int64) - fr)), .second, .val (.long nn), .second, .val (.int md), .val (.long (own_after fr nn)), .second, .unset, .unset, .unset, .unset] [])
      refine Go.step (fun _ k => XS.lload X19.here hx rfl (hb hby at_89) rfl k) ?_
      show Go _ _ _ _ _ _ _ T19 (mkF m 91 #[.val (.long qa), .second, .val (.long qb), .second, .val (.int im), .val (.long fr), .second, .val (.long ((9223372036854775807 : Int64) - fr)), .second, .val (.long nn), .second, .val (.int md), .val (.long (own_after fr nn)), .second, .unset, .unset, .unset, .unset] [(.long fr)])
      refine Go.step (fun _ k => XS.lload X19.here hx rfl (hb hby at_91) rfl k) ?_
      show Go _ _ _ _ _ _ _ T19 (mkF m 93 #[.val (.long qa), .second, .val (.long qb), .second, .val (.int im), .val (.long fr), .second, .val (.long ((9223372036854775807 : Int64) - fr)), .second, .val (.long nn), .second, .val (.int md), .val (.long (own_after fr nn)), .second, .unset, .unset, .unset, .unset] [(.long nn), (.long fr)])
      refine Go.step (fun _ k => XS.ladd X19.here hx rfl (hb hby at_93) rfl k) ?_
      show Go _ _ _ _ _ _ _ T19 (mkF m 94 #[.val (.long qa), .second, .val (.long qb), .second, .val (.int im), .val (.long fr), .second, .val (.long ((9223372036854775807 : Int64) - fr)), .second, .val (.long nn), .second, .val (.int md), .val (.long (own_after fr nn)), .second, .unset, .unset, .unset, .unset] [(.long (fr + nn))])
      refine Go.step (fun _ k => XS.lstore X19.here hx rfl (hb hby at_94) rfl (l' := #[.val (.long qa), .second, .val (.long qb), .second, .val (.int im), .val (.long fr), .second, .val (.long ((9223372036854775807 : Int64) - fr)), .second, .val (.long nn), .second, .val (.int md), .val (.long (own_after fr nn)), .second, .val (.long (fr + nn)), .second, .unset, .unset]) rfl k) ?_
      show Go _ _ _ _ _ _ _ T19 (mkF m 96 #[.val (.long qa), .second, .val (.long qb), .second, .val (.int im), .val (.long fr), .second, .val (.long ((9223372036854775807 : Int64) - fr)), .second, .val (.long nn), .second, .val (.int md), .val (.long (own_after fr nn)), .second, .val (.long (fr + nn)), .second, .unset, .unset] [])
      refine Go.step (fun _ k => XS.lload X19.here hx rfl (hb hby at_96) rfl k) ?_
      show Go _ _ _ _ _ _ _ T19 (mkF m 98 #[.val (.long qa), .second, .val (.long qb), .second, .val (.int im), .val (.long fr), .second, .val (.long ((9223372036854775807 : Int64) - fr)), .second, .val (.long nn), .second, .val (.int md), .val (.long (own_after fr nn)), .second, .val (.long (fr + nn)), .second, .unset, .unset] [(.long (fr + nn))])
      refine Go.step (fun _ k => XS.lconst X19.here hx rfl (hb hby at_98) k) ?_
      show Go _ _ _ _ _ _ _ T19 (mkF m 99 #[.val (.long qa), .second, .val (.long qb), .second, .val (.int im), .val (.long fr), .second, .val (.long ((9223372036854775807 : Int64) - fr)), .second, .val (.long nn), .second, .val (.int md), .val (.long (own_after fr nn)), .second, .val (.long (fr + nn)), .second, .unset, .unset] [(.long (0 : Int64)), (.long (fr + nn))])
      refine Go.step (fun _ k => XS.lcmp X19.here hx rfl (hb hby at_99) rfl k) ?_
      show Go _ _ _ _ _ _ _ T19 (mkF m 100 #[.val (.long qa), .second, .val (.long qb), .second, .val (.int im), .val (.long fr), .second, .val (.long ((9223372036854775807 : Int64) - fr)), .second, .val (.long nn), .second, .val (.int md), .val (.long (own_after fr nn)), .second, .val (.long (fr + nn)), .second, .unset, .unset] [(.int (lcmpW (fr + nn) (0 : Int64)))])
      by_cases hc100_20 : (fr + nn) < (0 : Int64)
      · refine Go.step (fun _ k => XS.ifNo X19.here hx rfl (hb hby at_100) rfl ((if0 _ _).trans (tlt ((lw_lt _ _).mpr hc100_20)).2.1) k) ?_
        show Go _ _ _ _ _ _ _ T19 (mkF m 103 #[.val (.long qa), .second, .val (.long qb), .second, .val (.int im), .val (.long fr), .second, .val (.long ((9223372036854775807 : Int64) - fr)), .second, .val (.long nn), .second, .val (.int md), .val (.long (own_after fr nn)), .second, .val (.long (fr + nn)), .second, .unset, .unset] [])
        refine Go.step (X19.ldc2Long hx hown (mvT hZ (hw _ (List.mem_of_getElem? (i := 0) rfl))) (g := (mkF m 103 #[.val (.long qa), .second, .val (.long qb), .second, .val (.int im), .val (.long fr), .second, .val (.long ((9223372036854775807 : Int64) - fr)), .second, .val (.long nn), .second, .val (.int md), .val (.long (own_after fr nn)), .second, .val (.long (fr + nn)), .second, .unset, .unset] [])) rfl (hb hby at_103)) ?_
        show Go _ _ _ _ _ _ _ T19 (mkF m 106 #[.val (.long qa), .second, .val (.long qb), .second, .val (.int im), .val (.long fr), .second, .val (.long ((9223372036854775807 : Int64) - fr)), .second, .val (.long nn), .second, .val (.int md), .val (.long (own_after fr nn)), .second, .val (.long (fr + nn)), .second, .unset, .unset] [(.long (9223372036854775807 : Int64))])
        refine Go.step (fun _ k => XS.goto X19.here hx rfl (pc0 := 106) (pc' := 111) rfl (hb hby at_106) (by decide) (by decide) k) ?_
        show Go _ _ _ _ _ _ _ T19 (mkF m 111 #[.val (.long qa), .second, .val (.long qb), .second, .val (.int im), .val (.long fr), .second, .val (.long ((9223372036854775807 : Int64) - fr)), .second, .val (.long nn), .second, .val (.int md), .val (.long (own_after fr nn)), .second, .val (.long (fr + nn)), .second, .unset, .unset] [(.long (9223372036854775807 : Int64))])
        refine Go.step (fun _ k => XS.lstore X19.here hx rfl (hb hby at_111) rfl (l' := #[.val (.long qa), .second, .val (.long qb), .second, .val (.int im), .val (.long fr), .second, .val (.long ((9223372036854775807 : Int64) - fr)), .second, .val (.long nn), .second, .val (.int md), .val (.long (own_after fr nn)), .second, .val (.long (fr + nn)), .second, .val (.long (9223372036854775807 : Int64)), .second]) rfl k) ?_
        show Go _ _ _ _ _ _ _ T19 (mkF m 113 #[.val (.long qa), .second, .val (.long qb), .second, .val (.int im), .val (.long fr), .second, .val (.long ((9223372036854775807 : Int64) - fr)), .second, .val (.long nn), .second, .val (.int md), .val (.long (own_after fr nn)), .second, .val (.long (fr + nn)), .second, .val (.long (9223372036854775807 : Int64)), .second] [])
        refine Go.step (fun _ k => XS.lload X19.here hx rfl (hb hby at_113) rfl k) ?_
        show Go _ _ _ _ _ _ _ T19 (mkF m 115 #[.val (.long qa), .second, .val (.long qb), .second, .val (.int im), .val (.long fr), .second, .val (.long ((9223372036854775807 : Int64) - fr)), .second, .val (.long nn), .second, .val (.int md), .val (.long (own_after fr nn)), .second, .val (.long (fr + nn)), .second, .val (.long (9223372036854775807 : Int64)), .second] [(.long (own_after fr nn))])
        refine Go.step (fun _ k => XS.lload X19.here hx rfl (hb hby at_115) rfl k) ?_
        show Go _ _ _ _ _ _ _ T19 (mkF m 117 #[.val (.long qa), .second, .val (.long qb), .second, .val (.int im), .val (.long fr), .second, .val (.long ((9223372036854775807 : Int64) - fr)), .second, .val (.long nn), .second, .val (.int md), .val (.long (own_after fr nn)), .second, .val (.long (fr + nn)), .second, .val (.long (9223372036854775807 : Int64)), .second] [(.long (9223372036854775807 : Int64)), (.long (own_after fr nn))])
        refine Go.step (fun _ k => XS.lcmp X19.here hx rfl (hb hby at_117) rfl k) ?_
        show Go _ _ _ _ _ _ _ T19 (mkF m 118 #[.val (.long qa), .second, .val (.long qb), .second, .val (.int im), .val (.long fr), .second, .val (.long ((9223372036854775807 : Int64) - fr)), .second, .val (.long nn), .second, .val (.int md), .val (.long (own_after fr nn)), .second, .val (.long (fr + nn)), .second, .val (.long (9223372036854775807 : Int64)), .second] [(.int (lcmpW (own_after fr nn) (9223372036854775807 : Int64)))])
        have hc118_21 : (own_after fr nn) = (9223372036854775807 : Int64) := own_f1 _ _ b0 b1 hc100_20
        refine Go.step (fun _ k => XS.ifNo X19.here hx rfl (hb hby at_118) rfl ((if0 _ _).trans (teq ((lw_eq _ _).mpr hc118_21)).2) k) ?_
        show Go _ _ _ _ _ _ _ T19 (mkF m 121 #[.val (.long qa), .second, .val (.long qb), .second, .val (.int im), .val (.long fr), .second, .val (.long ((9223372036854775807 : Int64) - fr)), .second, .val (.long nn), .second, .val (.int md), .val (.long (own_after fr nn)), .second, .val (.long (fr + nn)), .second, .val (.long (9223372036854775807 : Int64)), .second] [])
        refine Go.step (fun _ k => XS.iconst X19.here hx rfl (hb hby at_121) k) ?_
        show Go _ _ _ _ _ _ _ T19 (mkF m 122 #[.val (.long qa), .second, .val (.long qb), .second, .val (.int im), .val (.long fr), .second, .val (.long ((9223372036854775807 : Int64) - fr)), .second, .val (.long nn), .second, .val (.int md), .val (.long (own_after fr nn)), .second, .val (.long (fr + nn)), .second, .val (.long (9223372036854775807 : Int64)), .second] [(.int (1 : Int32))])
        refine Go.step (fun _ k => XS.goto X19.here hx rfl (pc0 := 122) (pc' := 126) rfl (hb hby at_122) (by decide) (by decide) k) ?_
        show Go _ _ _ _ _ _ _ T19 (mkF m 126 #[.val (.long qa), .second, .val (.long qb), .second, .val (.int im), .val (.long fr), .second, .val (.long ((9223372036854775807 : Int64) - fr)), .second, .val (.long nn), .second, .val (.int md), .val (.long (own_after fr nn)), .second, .val (.long (fr + nn)), .second, .val (.long (9223372036854775807 : Int64)), .second] [(.int (1 : Int32))])
        exact Go.retN X19 hx (t := .boolean) hret hlk (by simp) (hb hby at_126) e19 (by decide) (by decide) ⟨rfl, N19, trivial⟩
      · refine Go.step (fun _ k => XS.ifYes X19.here hx rfl (pc0 := 100) (pc' := 109) rfl (hb hby at_100) rfl ((if0 _ _).trans (flt (mt (lw_lt _ _).mp hc100_20)).2.1) (by decide) (by decide) k) ?_
        show Go _ _ _ _ _ _ _ T19 (mkF m 109 #[.val (.long qa), .second, .val (.long qb), .second, .val (.int im), .val (.long fr), .second, .val (.long ((9223372036854775807 : Int64) - fr)), .second, .val (.long nn), .second, .val (.int md), .val (.long (own_after fr nn)), .second, .val (.long (fr + nn)), .second, .unset, .unset] [])
        refine Go.step (fun _ k => XS.lload X19.here hx rfl (hb hby at_109) rfl k) ?_
        show Go _ _ _ _ _ _ _ T19 (mkF m 111 #[.val (.long qa), .second, .val (.long qb), .second, .val (.int im), .val (.long fr), .second, .val (.long ((9223372036854775807 : Int64) - fr)), .second, .val (.long nn), .second, .val (.int md), .val (.long (own_after fr nn)), .second, .val (.long (fr + nn)), .second, .unset, .unset] [(.long (fr + nn))])
        refine Go.step (fun _ k => XS.lstore X19.here hx rfl (hb hby at_111) rfl (l' := #[.val (.long qa), .second, .val (.long qb), .second, .val (.int im), .val (.long fr), .second, .val (.long ((9223372036854775807 : Int64) - fr)), .second, .val (.long nn), .second, .val (.int md), .val (.long (own_after fr nn)), .second, .val (.long (fr + nn)), .second, .val (.long (fr + nn)), .second]) rfl k) ?_
        show Go _ _ _ _ _ _ _ T19 (mkF m 113 #[.val (.long qa), .second, .val (.long qb), .second, .val (.int im), .val (.long fr), .second, .val (.long ((9223372036854775807 : Int64) - fr)), .second, .val (.long nn), .second, .val (.int md), .val (.long (own_after fr nn)), .second, .val (.long (fr + nn)), .second, .val (.long (fr + nn)), .second] [])
        refine Go.step (fun _ k => XS.lload X19.here hx rfl (hb hby at_113) rfl k) ?_
        show Go _ _ _ _ _ _ _ T19 (mkF m 115 #[.val (.long qa), .second, .val (.long qb), .second, .val (.int im), .val (.long fr), .second, .val (.long ((9223372036854775807 : Int64) - fr)), .second, .val (.long nn), .second, .val (.int md), .val (.long (own_after fr nn)), .second, .val (.long (fr + nn)), .second, .val (.long (fr + nn)), .second] [(.long (own_after fr nn))])
        refine Go.step (fun _ k => XS.lload X19.here hx rfl (hb hby at_115) rfl k) ?_
        show Go _ _ _ _ _ _ _ T19 (mkF m 117 #[.val (.long qa), .second, .val (.long qb), .second, .val (.int im), .val (.long fr), .second, .val (.long ((9223372036854775807 : Int64) - fr)), .second, .val (.long nn), .second, .val (.int md), .val (.long (own_after fr nn)), .second, .val (.long (fr + nn)), .second, .val (.long (fr + nn)), .second] [(.long (fr + nn)), (.long (own_after fr nn))])
        refine Go.step (fun _ k => XS.lcmp X19.here hx rfl (hb hby at_117) rfl k) ?_
        show Go _ _ _ _ _ _ _ T19 (mkF m 118 #[.val (.long qa), .second, .val (.long qb), .second, .val (.int im), .val (.long fr), .second, .val (.long ((9223372036854775807 : Int64) - fr)), .second, .val (.long nn), .second, .val (.int md), .val (.long (own_after fr nn)), .second, .val (.long (fr + nn)), .second, .val (.long (fr + nn)), .second] [(.int (lcmpW (own_after fr nn) (fr + nn)))])
        have hc118_22 : (own_after fr nn) = (fr + nn) := own_f2 _ _ b0 b1 hc100_20
        refine Go.step (fun _ k => XS.ifNo X19.here hx rfl (hb hby at_118) rfl ((if0 _ _).trans (teq ((lw_eq _ _).mpr hc118_22)).2) k) ?_
        show Go _ _ _ _ _ _ _ T19 (mkF m 121 #[.val (.long qa), .second, .val (.long qb), .second, .val (.int im), .val (.long fr), .second, .val (.long ((9223372036854775807 : Int64) - fr)), .second, .val (.long nn), .second, .val (.int md), .val (.long (own_after fr nn)), .second, .val (.long (fr + nn)), .second, .val (.long (fr + nn)), .second] [])
        refine Go.step (fun _ k => XS.iconst X19.here hx rfl (hb hby at_121) k) ?_
        show Go _ _ _ _ _ _ _ T19 (mkF m 122 #[.val (.long qa), .second, .val (.long qb), .second, .val (.int im), .val (.long fr), .second, .val (.long ((9223372036854775807 : Int64) - fr)), .second, .val (.long nn), .second, .val (.int md), .val (.long (own_after fr nn)), .second, .val (.long (fr + nn)), .second, .val (.long (fr + nn)), .second] [(.int (1 : Int32))])
        refine Go.step (fun _ k => XS.goto X19.here hx rfl (pc0 := 122) (pc' := 126) rfl (hb hby at_122) (by decide) (by decide) k) ?_
        show Go _ _ _ _ _ _ _ T19 (mkF m 126 #[.val (.long qa), .second, .val (.long qb), .second, .val (.int im), .val (.long fr), .second, .val (.long ((9223372036854775807 : Int64) - fr)), .second, .val (.long nn), .second, .val (.int md), .val (.long (own_after fr nn)), .second, .val (.long (fr + nn)), .second, .val (.long (fr + nn)), .second] [(.int (1 : Int32))])
        exact Go.retN X19 hx (t := .boolean) hret hlk (by simp) (hb hby at_126) e19 (by decide) (by decide) ⟨rfl, N19, trivial⟩
set_option maxRecDepth 65536 in
set_option maxHeartbeats 40000000 in
theorem comes_1 {Post : Tables → Env → Array Value → State → Outcome → State → Prop} (hpost : ∀ tb e args s v u, (limb_1_1.after args s (.returned v) u = true ∧ limb_1_2.after args s (.returned v) u = true ∧ True) → FrameEnd s (.returned v) u (Jvm.fieldLocs frame_1_writes args s ++ Jvm.arrayLocs frame_1_arrays args s ++ Jvm.staticLocs frame_1_statics s) 0 0 → Post tb e args s (.returned v) u) :
    ArmFor flags0 classFile x code maxLocals ret World_1 tables_1 room_1 Calls_1 rest_1 Pre_1 Post := by
  intro l hfl _ _ p e ha hc hk s m args below hf hA hF happ hP
  obtain ⟨hcalls, hrest, hpre⟩ := hP
  obtain ⟨-, -, -, hnamed, -, -, -, hat⟩ := (Spec.applies_iff hf).mp happ
  obtain ⟨hg, hn⟩ := and_e (Cond.before_iff.mp (show (Jvm.Cond.and given_1 narrow_1).before args s = true from hpre))
  obtain ⟨gg1, gg2⟩ := and_e hg
  obtain ⟨gg3, gg4⟩ := and_e gg2
  obtain ⟨gg5, gg6⟩ := and_e gg4
  obtain ⟨w0, w1, w2, rfl⟩ : ∃ w0 w1 w2 : Value, args = #[w0, w1, w2] := by
    have hs : args.size = 3 := by simpa [Cond.value, given_1] using gg1
    obtain ⟨L⟩ := args
    match L, hs with
    | [w0, w1, w2], _ => exact ⟨w0, w1, w2, rfl⟩
  have hw := fun d (hd : d ∈ tables_1) => atoms_spec (ws := Jvm.Cond.code x code maxLocals ret :: tables_1) hat d (List.mem_cons_of_mem _ hd)
  have hfit : Fit s := fun {y c} hc i hi => by
    obtain ⟨ha, rfl⟩ := Array.getElem?_eq_some_iff.mp hc
    have q := List.all_eq_true.mp ((Array.all_eq_true_iff_forall_mem.mp hF) _ (Array.getElem_mem ha)) i (List.mem_range.mpr hi)
    simpa [Array.getElem?_eq_getElem hi] using q
  obtain ⟨qa, ei0⟩ := isL_v gg3
  obtain rfl : w0 = (.long qa) := Option.some.inj ei0
  obtain ⟨qb, ei1⟩ := isL_v gg5
  obtain rfl : w1 = (.long qb) := Option.some.inj ei1
  obtain ⟨im, ei2⟩ := is_v gg6
  obtain rfl : w2 = (.int im) := Option.some.inj ei2
  obtain ⟨n, o, h1, h2, h3, _, L, rfl, ⟨rfl, N, -⟩, hq⟩ := rm0 l s _ hw tables_1 qa qb im s.heap s.heap.size (Nat.le_refl _)  p e ha hc hk s m _ below hf ((Spec.applies_iff_loose hf).mp happ).1 ⟨rfl, State.Warmed39.refl s, rfl⟩ trivial
  refine ⟨n, _, h1, h2, h3, hpost _ _ _ _ _ _ ⟨Cond.after_iff.mpr rfl, Cond.after_iff.mpr (eq_i res_at (Term.int_eval (1)) rfl), trivial⟩ ⟨hq.1, hq.2.1, (hq.2.2.sift fun y hy => Or.inr (N y hy)).mono (by decide) (by decide)⟩⟩
theorem main_1_1 : Claimed_1_1 := comes_1 fun _ _ _ _ _ _ h hF => ⟨h.1, hF⟩
theorem main_1_2 : Claimed_1_2 := comes_1 fun _ _ _ _ _ _ h hF => ⟨h.2.1, hF⟩
end Jvm.Pilot.@@N@@
namespace Jvm.Pilot.@@N@@
open Jvm Jvm.ClassFile Sem Op Lib Jvm.Free Jvm.Stand Jvm.Pilot.@@N@@.Jvm.D
/-! MADE BY PROGRAM (witnessworld.py) out of the Statement's table words and the real class files: 10 classes; the members and pool entries that the words name. The judged class is class 1, her method 1. -/
namespace start1
open Jvm.ClassFile
def u (s : String) : CpInfo := .utf8 (stringToUtf16 s)
/-- a pool by its gaps: so many unusable entries, then the entry; so many at the end -/
def gap : Nat → List CpInfo → List CpInfo
  | 0, r => r
  | n + 1, r => .unusable :: gap n r
def poolList (es : List (Nat × CpInfo)) (last : Nat) : List CpInfo := es.foldr (fun e r => gap e.1 (e.2 :: r)) (gap last [])
def pool (es : List (Nat × CpInfo)) (last : Nat) : Array CpInfo := ⟨poolList es last⟩
def fileOf (pool : Array CpInfo) (this : Nat) (attrs : Array Attribute := #[]) (ms : Array MethodInfo := #[]) (fl : Nat := 33) (sup : Nat := 0) (ifs : Array Nat := #[]) (fds : Array FieldInfo := #[]) : ClassFile where
  minorVersion := 0
  majorVersion := 65
  constantPool := pool
  accessFlags := fl
  thisClass := this
  superClass := sup
  interfaces := ifs
  fields := fds
  methods := ms
  attributes := attrs
def plain (name : String) (sup : Option ClassId) : Class where
  name := name
  kind := .ordinary
  loader := none
  accessFlags := 33
  super := sup
  interfaces := #[]
  cf := none
  fields := #[]
  methods := #[]
  instanceTypes := #[]
  staticTypes := #[]
  resolved := #[]
  callSites := []
  init := .initialized
  statics := none
  mirror := none

def pool0 : Array CpInfo := pool [(5, u "<init>"), (0, u "()V"), (1, .class_ 10), (1, u "java/lang/Object")] 113

def k0m0 : Method := { name := "<init>", desc := "()V", sig := { parameters := [], returnType := none }, accessFlags := 1, code := none }
/-- java/lang/Object -/
def k0 : Class := { plain "java/lang/Object" none with
  accessFlags := 33
  interfaces := #[]
  cf := some (fileOf pool0 8 #[] #[{ accessFlags := 1, nameIndex := 5, descriptorIndex := 6, attributes := #[] }] 33 0 #[] #[])
  fields := #[]
  methods := #[k0m0]
  instanceTypes := #[]
  staticTypes := #[]
  resolved := Array.replicate 124 none
  statics := none }

def pool1 : Array CpInfo := pool [(2, .class_ 4), (1, u "java/lang/Object"), (0, u "<init>"), (0, u "()V"), (2, .long 9223372036854775807), (1, .long 3), (1, .methodref 14 15), (0, .class_ 16), (0, .nameAndType 17 18), (0, u "java/lang/Math"), (0, u "max"), (0, u "(JJ)J"), (0, .methodref 20 21), (0, .class_ 22), (0, .nameAndType 23 18), (0, u "com/example/moving_ceiling/movingceiling/model/OverloadModel"), (0, u "after"), (0, .class_ 25), (0, u "com/example/moving_ceiling/movingceiling/model/OverloadModelAfterPinLaw"), (2, u "law"), (0, u "(JJI)Z")] 3

def k1m0 : Method := { name := "<init>", desc := "()V", sig := { parameters := [], returnType := none }, accessFlags := 2, code := none }
def k1c1 : Code := { maxStack := 8, maxLocals := 18, code := code, exceptionTable := #[], attributes := #[] }
def k1m1 : Method := { name := "law", desc := "(JJI)Z", sig := { parameters := [.long, .long, .int], returnType := some .boolean }, accessFlags := 9, code := some k1c1 }
/-- com/example/moving_ceiling/movingceiling/model/OverloadModelAfterPinLaw -/
def k1 : Class := { plain "com/example/moving_ceiling/movingceiling/model/OverloadModelAfterPinLaw" (some 0) with
  accessFlags := 49
  interfaces := #[]
  cf := some (fileOf pool1 24 #[] #[{ accessFlags := 2, nameIndex := 5, descriptorIndex := 6, attributes := #[] }, { accessFlags := 9, nameIndex := 28, descriptorIndex := 29, attributes := #[] }] 49 2 #[] #[])
  fields := #[]
  methods := #[k1m0, k1m1]
  instanceTypes := #[]
  staticTypes := #[]
  resolved := Array.replicate 33 none
  statics := none }

def pool2 : Array CpInfo := pool [(2, .class_ 4), (1, u "java/lang/Object"), (6, .class_ 13), (1, u "com/example/moving_ceiling/movingceiling/model/OverloadModel"), (0, u "queue"), (0, u "Ljava/util/ArrayDeque;"), (21, u "inService"), (0, u "Ljava/util/PriorityQueue;"), (2, u "scenario"), (0, u "Lcom/example/moving_ceiling/movingceiling/model/Scenario;"), (7, u "tally"), (0, u "Lcom/example/moving_ceiling/movingceiling/model/Tally;"), (26, u "arrivals"), (0, u "Lcom/example/moving_ceiling/movingceiling/model/Arrivals;"), (2, u "serviceTimes"), (0, u "Ljava/util/Random;"), (36, u "now"), (0, u "J"), (21, .long 9223372036854775807), (5, .class_ 150), (0, u "com/example/moving_ceiling/movingceiling/model/OverloadModel$InService"), (11, u "(JJ)J"), (33, .class_ 197), (0, u "com/example/moving_ceiling/movingceiling/model/OverloadModel$Request"), (77, u "after"), (2, u "started"), (7, u "LIMIT_SAMPLE_NANOS")] 42

def k2c0 : Code := { maxStack := 6, maxLocals := 4, code := prog_26_method_8_code, exceptionTable := #[], attributes := #[] }
def k2m0 : Method := { name := "after", desc := "(JJ)J", sig := { parameters := [.long, .long], returnType := some .long }, accessFlags := 8, code := some k2c0 }
/-- com/example/moving_ceiling/movingceiling/model/OverloadModel -/
def k2 : Class := { plain "com/example/moving_ceiling/movingceiling/model/OverloadModel" (some 0) with
  accessFlags := 49
  interfaces := #[]
  cf := some (fileOf pool2 11 #[.nestMembers #[149, 196]] #[{ accessFlags := 8, nameIndex := 275, descriptorIndex := 162, attributes := #[] }] 49 2 #[] #[{ accessFlags := 26, nameIndex := 286, descriptorIndex := 121, attributes := #[] }, { accessFlags := 18, nameIndex := 41, descriptorIndex := 42, attributes := #[] }, { accessFlags := 18, nameIndex := 50, descriptorIndex := 51, attributes := #[] }, { accessFlags := 18, nameIndex := 78, descriptorIndex := 79, attributes := #[] }, { accessFlags := 18, nameIndex := 82, descriptorIndex := 83, attributes := #[] }, { accessFlags := 18, nameIndex := 14, descriptorIndex := 15, attributes := #[] }, { accessFlags := 18, nameIndex := 37, descriptorIndex := 38, attributes := #[] }, { accessFlags := 2, nameIndex := 120, descriptorIndex := 121, attributes := #[] }, { accessFlags := 2, nameIndex := 278, descriptorIndex := 121, attributes := #[] }])
  fields := #[{ name := "LIMIT_SAMPLE_NANOS", type := .long, accessFlags := 26, slot := 0, constantValue := 0 }, { name := "scenario", type := (.object "com/example/moving_ceiling/movingceiling/model/Scenario"), accessFlags := 18, slot := 0, constantValue := 0 }, { name := "tally", type := (.object "com/example/moving_ceiling/movingceiling/model/Tally"), accessFlags := 18, slot := 1, constantValue := 0 }, { name := "arrivals", type := (.object "com/example/moving_ceiling/movingceiling/model/Arrivals"), accessFlags := 18, slot := 2, constantValue := 0 }, { name := "serviceTimes", type := (.object "java/util/Random"), accessFlags := 18, slot := 3, constantValue := 0 }, { name := "queue", type := (.object "java/util/ArrayDeque"), accessFlags := 18, slot := 4, constantValue := 0 }, { name := "inService", type := (.object "java/util/PriorityQueue"), accessFlags := 18, slot := 5, constantValue := 0 }, { name := "now", type := .long, accessFlags := 2, slot := 6, constantValue := 0 }, { name := "started", type := .long, accessFlags := 2, slot := 7, constantValue := 0 }]
  methods := #[k2m0]
  instanceTypes := #[(.object "com/example/moving_ceiling/movingceiling/model/Scenario"), (.object "com/example/moving_ceiling/movingceiling/model/Tally"), (.object "com/example/moving_ceiling/movingceiling/model/Arrivals"), (.object "java/util/Random"), (.object "java/util/ArrayDeque"), (.object "java/util/PriorityQueue"), .long, .long]
  staticTypes := #[.long]
  resolved := Array.replicate 329 none
  statics := none }

def pool3 : Array CpInfo := pool [(1, .class_ 2), (0, u "java/lang/Math"), (1, .class_ 6), (1, u "java/lang/Object"), (0, u "<init>"), (0, u "()V"), (89, .class_ 100), (1, u "java/lang/Math$RandomNumberGeneratorHolder"), (20, u "(JJ)J"), (50, u "negativeZeroFloatBits"), (0, u "J"), (2, u "negativeZeroDoubleBits"), (21, u "max"), (46, u "$assertionsDisabled"), (0, u "Z"), (91, u "twoToTheDoubleScaleDown"), (0, u "D"), (4, u "twoToTheDoubleScaleUp"), (9, u "E"), (3, u "PI"), (2, u "TAU"), (2, u "DEGREES_TO_RADIANS"), (0, u "RADIANS_TO_DEGREES")] 94

def k3m0 : Method := { name := "<init>", desc := "()V", sig := { parameters := [], returnType := none }, accessFlags := 2, code := none }
def k3c1 : Code := { maxStack := 4, maxLocals := 4, code := jdk_29_method_66_code, exceptionTable := #[], attributes := #[] }
def k3m1 : Method := { name := "max", desc := "(JJ)J", sig := { parameters := [.long, .long], returnType := some .long }, accessFlags := 9, code := some k3c1 }
/-- java/lang/Math -/
def k3 : Class := { plain "java/lang/Math" (some 0) with
  accessFlags := 49
  interfaces := #[]
  cf := some (fileOf pool3 1 #[.nestMembers #[98]] #[{ accessFlags := 2, nameIndex := 7, descriptorIndex := 8, attributes := #[] }, { accessFlags := 9, nameIndex := 198, descriptorIndex := 121, attributes := #[] }] 49 4 #[] #[{ accessFlags := 25, nameIndex := 354, descriptorIndex := 339, attributes := #[] }, { accessFlags := 25, nameIndex := 358, descriptorIndex := 339, attributes := #[] }, { accessFlags := 25, nameIndex := 361, descriptorIndex := 339, attributes := #[] }, { accessFlags := 26, nameIndex := 364, descriptorIndex := 339, attributes := #[] }, { accessFlags := 26, nameIndex := 365, descriptorIndex := 339, attributes := #[] }, { accessFlags := 26, nameIndex := 172, descriptorIndex := 173, attributes := #[] }, { accessFlags := 26, nameIndex := 176, descriptorIndex := 173, attributes := #[] }, { accessFlags := 8, nameIndex := 344, descriptorIndex := 339, attributes := #[] }, { accessFlags := 8, nameIndex := 338, descriptorIndex := 339, attributes := #[] }, { accessFlags := 4120, nameIndex := 245, descriptorIndex := 246, attributes := #[] }])
  fields := #[{ name := "E", type := .double, accessFlags := 25, slot := 0, constantValue := 0 }, { name := "PI", type := .double, accessFlags := 25, slot := 1, constantValue := 0 }, { name := "TAU", type := .double, accessFlags := 25, slot := 2, constantValue := 0 }, { name := "DEGREES_TO_RADIANS", type := .double, accessFlags := 26, slot := 3, constantValue := 0 }, { name := "RADIANS_TO_DEGREES", type := .double, accessFlags := 26, slot := 4, constantValue := 0 }, { name := "negativeZeroFloatBits", type := .long, accessFlags := 26, slot := 5, constantValue := 0 }, { name := "negativeZeroDoubleBits", type := .long, accessFlags := 26, slot := 6, constantValue := 0 }, { name := "twoToTheDoubleScaleUp", type := .double, accessFlags := 8, slot := 7, constantValue := 0 }, { name := "twoToTheDoubleScaleDown", type := .double, accessFlags := 8, slot := 8, constantValue := 0 }, { name := "$assertionsDisabled", type := .boolean, accessFlags := 4120, slot := 9, constantValue := 0 }]
  methods := #[k3m0, k3m1]
  instanceTypes := #[]
  staticTypes := #[.double, .double, .double, .double, .double, .long, .long, .double, .double, .boolean]
  resolved := Array.replicate 460 none
  statics := none }

def pool4 : Array CpInfo := pool [(1, u "java/lang/Cloneable"), (0, .class_ 1), (0, u "java/lang/Object"), (0, .class_ 3)] 3

/-- java/lang/Cloneable -/
def k4 : Class := { plain "java/lang/Cloneable" (some 0) with
  accessFlags := 1537
  interfaces := #[]
  cf := some (fileOf pool4 2 #[] #[] 1537 4 #[] #[])
  fields := #[]
  methods := #[]
  instanceTypes := #[]
  staticTypes := #[]
  resolved := Array.replicate 8 none
  statics := none }

def pool5 : Array CpInfo := pool [(1, u "java/io/Serializable"), (0, .class_ 1), (0, u "java/lang/Object"), (0, .class_ 3)] 3

/-- java/io/Serializable -/
def k5 : Class := { plain "java/io/Serializable" (some 0) with
  accessFlags := 1537
  interfaces := #[]
  cf := some (fileOf pool5 2 #[] #[] 1537 4 #[] #[])
  fields := #[]
  methods := #[]
  instanceTypes := #[]
  staticTypes := #[]
  resolved := Array.replicate 8 none
  statics := none }

/-- the primitive byte -/
def k6 : Class := { plain "byte" none with kind := .primitive 'B', accessFlags := 0x411 }
/-- [B -/
def k7 : Class := { plain "[B" (some 0) with kind := .array 6 .byte, interfaces := #[4, 5], accessFlags := 1041 }

/-- the primitive int -/
def k8 : Class := { plain "int" none with kind := .primitive 'I', accessFlags := 0x411 }
/-- [I -/
def k9 : Class := { plain "[I" (some 0) with kind := .array 8 .int, interfaces := #[4, 5], accessFlags := 1041 }

def heap : Heap := #[]
def classes : Array Class := #[k0, k1, k2, k3, k4, k5, k6, k7, k8, k9]
def interned : List (Array UInt16 × Addr) := []
def slotsUsed : Nat := 0
def theMethod : MethodId := ⟨1, 1⟩
def args0 : Array Value := #[.long 5, .long 7, .int 3]
def aboutOver (below : List Frame) : State where
  vm := { classes := classes, interned := interned.toArray }
  heap := heap
  slotsUsed := slotsUsed
  threads := #[{ frames := .invoking theMethod args0 :: below }]
def below0 : List Frame := [.native { method := ⟨0, 0⟩, args := #[] }]
def about1 : State := aboutOver below0
def p0 : Program := .bare "" "" ""
def e0 : Env := launch0.env 0 0 0
theorem w_frames : about1.frames = Frame.invoking theMethod args0 :: below0 := rfl
set_option maxRecDepth 65536 in
theorem w_args : argsFit about1.vm theMethod args0 = true := by decide +kernel
set_option maxRecDepth 65536 in
theorem w_heap : heapFits about1 = true := by decide +kernel
set_option maxRecDepth 65536 in
theorem w_runnable : about1.curStatus? = some .runnable := by decide +kernel
set_option maxRecDepth 65536 in
theorem w_alone : about1.alone = true := by decide +kernel
set_option maxRecDepth 65536 in
theorem w_named : about1.methodNamed? x = some theMethod := by decide +kernel
set_option maxRecDepth 65536 in
theorem w_hears : about1.hears theMethod below0 = true := by decide +kernel
set_option maxRecDepth 65536 in
theorem w_ripe : about1.ripe theMethod args0 below0 = true := by decide +kernel
theorem w_running : about1.status = .running := rfl
set_option maxRecDepth 65536 in
theorem w_room : about1.hasRoom e0.platform room_1 = true :=
  launch0.hasRoom_least _ room_1 (by decide +kernel) (by decide +kernel) (by decide +kernel) (by decide +kernel) (by decide +kernel) (by decide +kernel)
theorem allAtoms_all (ts : List Jvm.Cond) (a : Array Jvm.Value) (st : Jvm.State) : (allAtoms ts).before a st = ts.all (fun c => c.before a st) := by
  induction ts with
  | nil => rfl
  | cons c t ih =>
    show (Jvm.Cond.and c (allAtoms t)).before a st = _
    rw [Jvm.Cond.before_and, ih, List.all_cons]
def words1 : List Jvm.Cond := Jvm.Cond.code x code maxLocals ret :: tables_1
/-- a 'code' word, met by the world's own term for the bytes: nothing is compared byte by byte -/
theorem code_word {y : MethodName} {bytes : ByteArray} {mx : Nat} {rt : Option FieldType} {a : Array Value} {s : State} {m : MethodId} {meth : Method} {c : Code} (h1 : s.methodNamed? y = some m) (h2 : s.vm.method? m = some meth) (h3 : meth.code = some c) (h4 : c.code = bytes)
    (h5 : (c.maxLocals == mx && c.exceptionTable.isEmpty && decide (c.maxStack ≤ mostOperands) && decide (meth.sig.returnType = rt) && !meth.locks && decide (parseMethodDescriptor y.desc = some meth.sig)) = true) : (Jvm.Cond.code y bytes mx rt).before a s = true := by
  simp only [Bool.and_eq_true, beq_iff_eq, Bool.not_eq_true', decide_eq_true_eq] at h5
  obtain ⟨⟨⟨⟨⟨g1, g2⟩, g3⟩, g4⟩, g5⟩, g6⟩ := h5
  simp [Cond.before, Cond.holds, Cond.value, h1, h2, h3, h4, g1, g2, g3, g4, g5, g6]
def isCode : Jvm.Cond → Bool
  | .code _ _ _ _ => true
  | _ => false
theorem all_split {L : List Jvm.Cond} {P : Jvm.Cond → Bool} (h1 : L.all (fun c => isCode c || P c) = true) (h2 : ∀ c ∈ L.filter isCode, P c = true) : L.all P = true := by
  refine List.all_eq_true.mpr fun c hc => ?_
  have h := List.all_eq_true.mp h1 c hc
  rcases Bool.eq_false_or_eq_true (isCode c) with hi | hi
  · exact h2 c (List.mem_filter.mpr ⟨hc, hi⟩)
  · simpa [hi] using h
set_option maxRecDepth 65536 in
theorem w_c0 : (Jvm.Cond.code x code maxLocals ret).before args0 about1 = true := code_word (m := ⟨1, 1⟩) (meth := k1m1) (c := k1c1) (by decide +kernel) rfl rfl rfl (by decide +kernel)
set_option maxRecDepth 65536 in
theorem w_c1 : (Jvm.Cond.code ({ cls := "com/example/moving_ceiling/movingceiling/model/OverloadModel", name := "after", desc := "(JJ)J" } : Jvm.MethodName) prog_26_method_8_code (4 : Nat) (Option.some Jvm.ClassFile.FieldType.long)).before args0 about1 = true := code_word (m := ⟨2, 0⟩) (meth := k2m0) (c := k2c0) (by decide +kernel) rfl rfl rfl (by decide +kernel)
set_option maxRecDepth 65536 in
theorem w_c2 : (Jvm.Cond.code ({ cls := "java/lang/Math", name := "max", desc := "(JJ)J" } : Jvm.MethodName) jdk_29_method_66_code (4 : Nat) (Option.some Jvm.ClassFile.FieldType.long)).before args0 about1 = true := code_word (m := ⟨3, 1⟩) (meth := k3m1) (c := k3c1) (by decide +kernel) rfl rfl rfl (by decide +kernel)
def codes1 : List Jvm.Cond := [Jvm.Cond.code x code maxLocals ret, Jvm.Cond.code ({ cls := "com/example/moving_ceiling/movingceiling/model/OverloadModel", name := "after", desc := "(JJ)J" } : Jvm.MethodName) prog_26_method_8_code (4 : Nat) (Option.some Jvm.ClassFile.FieldType.long), Jvm.Cond.code ({ cls := "java/lang/Math", name := "max", desc := "(JJ)J" } : Jvm.MethodName) jdk_29_method_66_code (4 : Nat) (Option.some Jvm.ClassFile.FieldType.long)]
set_option maxRecDepth 65536 in
theorem codes_eq : words1.filter isCode = codes1 := rfl
theorem w_codes : ∀ c ∈ words1.filter isCode, c.before args0 about1 = true := by
  rw [codes_eq]
  intro c hc
  simp only [codes1, List.mem_cons, List.not_mem_nil, or_false] at hc
  rcases hc with rfl | rfl | rfl
  · exact w_c0
  · exact w_c1
  · exact w_c2
set_option maxRecDepth 65536 in
theorem w_t1 : words1.all (fun c => isCode c || c.before args0 about1) = true := by decide +kernel
theorem w_tables : (allAtoms (Jvm.Cond.code x code maxLocals ret :: tables_1)).before args0 about1 = true := by
  rw [allAtoms_all]
  show words1.all (fun c => c.before args0 about1) = true
  refine all_split ?_ w_codes
  rw [w_t1]
set_option maxRecDepth 65536 in
theorem w_case : (Jvm.Cond.and given_1 narrow_1).before args0 about1 = true := by decide +kernel
theorem w_applies : (headSpec (Jvm.Cond.code x code maxLocals ret :: tables_1) room_1).applies x e0.platform about1 = true :=
  (Spec.applies_iff w_frames).mpr ⟨w_running, w_runnable, w_alone, w_named, w_hears, w_ripe, w_room, w_tables⟩
theorem atStart : AtStart classFile x code maxLocals ret World_1 tables_1 room_1 Calls_1 rest_1 Pre_1 launch0 p0 e0 about1 theMethod args0 below0 :=
  ⟨lists_1, trivial, launch0.admits_env _ _ _, launch0.least_env, fairChoices_fair.cas, fairChoices_fair.clock, w_frames, w_args, w_heap, w_applies, trivial, trivial, w_case⟩
end start1
theorem witness_1 : WitnessClaimed_1 := ⟨start1.p0, start1.e0, start1.about1, start1.theMethod, start1.args0, start1.below0, start1.atStart⟩
end Jvm.Pilot.@@N@@
