import JvmDerived
import JvmDerived.Pilot.@@N@@Statement
import JvmDerived.Pilot.@@N@@Code
set_option linter.unusedVariables false
set_option linter.unusedSimpArgs false
namespace Jvm.RoadKit
open Sem ClassFile Op Lib Jvm.Stand Jvm.Free Jvm.LawKit
section OwnGo
variable {p : Program} {l : Launch} {e : Env} {R : Room} {s : State} {m : MethodId} {args : Array Value} {below : List Frame} {meth : Method} {c : Code} {T T' : State} {locs : List Loc} {cells slots kc ks : Nat} {Q : Option Value → Heap → List Loc → Prop} {f f' : JFrame} {h : Heap}
/-- from the state T with the top frame f the body comes to its end, and what it leaves meets Q -/
def Go (p : Program) (e : Env) (below : List Frame) (s : State) (kc ks : Nat) (Q : Option Value → Heap → List Loc → Prop) (T : State) (f : JFrame) : Prop :=
  ∃ (s₂ : State) (o : Outcome), Steps p.tables e below (T.setTop f) s₂ ∧ s₂.status = .running ∧ Ended s₂ below o ∧ ∃ v L, o = .returned v ∧ Q v s₂.heap L ∧ FrameEnd s o s₂ L kc ks
theorem Go.step (h : ∀ target, Steps p.tables e below (T'.setTop f') target → Steps p.tables e below (T.setTop f) target) (k : Go p e below s kc ks Q T' f') : Go p e below s kc ks Q T f := by
  obtain ⟨s₂, o, h1, r⟩ := k
  exact ⟨s₂, o, h _ h1, r⟩
theorem Go.trans (h : Steps p.tables e below (T.setTop f) (T'.setTop f')) (k : Go p e below s kc ks Q T' f') : Go p e below s kc ks Q T f := by
  obtain ⟨s₂, o, h1, r⟩ := k
  exact ⟨s₂, o, h.trans h1, r⟩
theorem Go.cast (q : f = f') (k : Go p e below s kc ks Q T f') : Go p e below s kc ks Q T f := q ▸ k
theorem Go.enter {g : JFrame} {s₁ : State} (k : Go p e below s kc ks Q s₁ f) (q : g = f) :
    ∃ s₂ o, Steps p.tables e below (s₁.setTop g) s₂ ∧ s₂.status = .running ∧ Ended s₂ below o ∧ ∃ v L, o = .returned v ∧ Q v s₂.heap L ∧ FrameEnd s o s₂ L kc ks := by
  subst q; exact k
theorem Go.ret (X : Stand p l e R s m args below meth c T locs cells slots) (hx : p.tables.exec = Jvm.exec) {pc : Nat} {Ls : Array Slot} {w : Value} {t : FieldType} {i : Instr} {rest : List Value} (hret : meth.sig.returnType = some t) (hlk : meth.locks = false) (hn : narrow t w = w)
    (hi : (i = .ireturn ∧ (t = .int ∨ t = .boolean ∨ t = .byte ∨ t = .char ∨ t = .short) ∧ ∃ z, w = .int z) ∨ (i = .lreturn ∧ t = .long ∧ ∃ z, w = .long z) ∨ (i = .dreturn ∧ t = .double ∧ ∃ z, w = .double z) ∨ (i = .freturn ∧ t = .float ∧ ∃ z, w = .float z) ∨ (i = .areturn ∧ t.isReference = true ∧ w.isRef = true))
    (hd : decode c.code pc = .ok (i, 1)) (eT : T.heap = h) (hc : cells ≤ kc) (hs : slots ≤ ks) (hQ : Q (some w) h locs) : Go p e below s kc ks Q T (mkF m pc Ls (w :: rest)) := by
  obtain ⟨fs, hr, hrun, hended, hW, hsame⟩ := X.leave (v := some w) (fun q => by rw [hret] at q; cases q) hlk
  exact ⟨_, _, retOut X hx hret hn hi hd hr, hrun, hended, _, _, rfl, (by subst eT; exact hQ), ⟨_, rfl⟩, hW, hsame.mono hc hs⟩
theorem Go.retI (X : Stand p l e R s m args below meth c T locs cells slots) (hx : p.tables.exec = Jvm.exec) {pc : Nat} {Ls : Array Slot} {z : Int32} {rest : List Value} (hret : meth.sig.returnType = some .int) (hlk : meth.locks = false)
    (hd : decode c.code pc = .ok (.ireturn, 1)) (eT : T.heap = h) (hc : cells ≤ kc) (hs : slots ≤ ks) (hQ : Q (some (.int z)) h locs) : Go p e below s kc ks Q T (mkF m pc Ls (.int z :: rest)) :=
  Go.ret X hx hret hlk rfl (Or.inl ⟨rfl, Or.inl rfl, _, rfl⟩) hd eT hc hs hQ
theorem Go.retJ (X : Stand p l e R s m args below meth c T locs cells slots) (hx : p.tables.exec = Jvm.exec) {pc : Nat} {Ls : Array Slot} {z : Int64} {rest : List Value} (hret : meth.sig.returnType = some .long) (hlk : meth.locks = false)
    (hd : decode c.code pc = .ok (.lreturn, 1)) (eT : T.heap = h) (hc : cells ≤ kc) (hs : slots ≤ ks) (hQ : Q (some (.long z)) h locs) : Go p e below s kc ks Q T (mkF m pc Ls (.long z :: rest)) :=
  Go.ret X hx hret hlk rfl (Or.inr (Or.inl ⟨rfl, rfl, _, rfl⟩)) hd eT hc hs hQ
theorem Go.retA (X : Stand p l e R s m args below meth c T locs cells slots) (hx : p.tables.exec = Jvm.exec) {pc : Nat} {Ls : Array Slot} {w : Value} {t : FieldType} {rest : List Value} (hret : meth.sig.returnType = some t) (hlk : meth.locks = false) (ht : t.isReference = true) (hv : w.isRef = true)
    (hd : decode c.code pc = .ok (.areturn, 1)) (eT : T.heap = h) (hc : cells ≤ kc) (hs : slots ≤ ks) (hQ : Q (some w) h locs) : Go p e below s kc ks Q T (mkF m pc Ls (w :: rest)) :=
  Go.ret X hx hret hlk (by cases t <;> first | (cases ht; done) | (cases w <;> first | (cases hv; done) | rfl)) (Or.inr (Or.inr (Or.inr (Or.inr ⟨rfl, ht, hv⟩)))) hd eT hc hs hQ
theorem Go.retN (X : Stand p l e R s m args below meth c T locs cells slots) (hx : p.tables.exec = Jvm.exec) {pc : Nat} {Ls : Array Slot} {z : Int32} {t : FieldType} {rest : List Value} (hret : meth.sig.returnType = some t) (hlk : meth.locks = false) (ht : t = .boolean ∨ t = .byte ∨ t = .char ∨ t = .short)
    (hd : decode c.code pc = .ok (.ireturn, 1)) (eT : T.heap = h) (hc : cells ≤ kc) (hs : slots ≤ ks) (hQ : Q (some (.int (nar t z))) h locs) : Go p e below s kc ks Q T (mkF m pc Ls (.int z :: rest)) := by
  obtain ⟨fs, hr, hrun, hended, hW, hsame⟩ := X.leave (v := some (.int (nar t z))) (fun q => by rw [hret] at q; cases q) hlk
  exact ⟨_, _, Jvm.RoadKit.retN X hx hret ht hd hr, hrun, hended, _, _, rfl, (by subst eT; exact hQ), ⟨_, rfl⟩, hW, hsame.mono hc hs⟩
theorem Go.ret0 (X : Stand p l e R s m args below meth c T locs cells slots) (hx : p.tables.exec = Jvm.exec) {pc : Nat} {Ls : Array Slot} (hret : meth.sig.returnType = none) (hlk : meth.locks = false)
    (hd : decode c.code pc = .ok (.return_, 1)) (eT : T.heap = h) (hc : cells ≤ kc) (hs : slots ≤ ks) (hQ : Q none h locs) : Go p e below s kc ks Q T (mkF m pc Ls []) := by
  obtain ⟨fs, hr, hrun, hended, hW, hsame⟩ := X.leave (v := none) (fun _ => rfl) hlk
  exact ⟨_, _, X.returnOut hx hret hd hr, hrun, hended, _, _, rfl, (by subst eT; exact hQ), ⟨_, rfl⟩, hW, hsame.mono hc hs⟩
theorem own_selp {args' : Array Value} {y : MethodName} {n : Nat} (wi : (Cond.instantiable y.cls n).before args' s = true) (hpriv : s.PrivateAt y) (hinst : (Cond.instanceMethod y).before args' s = true) (hy : y.cls ≠ "java/lang/invoke/MethodHandle" ∧ y.cls ≠ "java/lang/invoke/VarHandle") : (Cond.selects y.cls y y).before args' s = true := by
  obtain ⟨c, k, h1, h2, -, h4, -⟩ := Cond.instantiable_spec wi
  exact selects_self_of_private h1 h2 (by simp only [Bool.or_eq_false_iff] at h4; exact h4.1) hpriv hinst hy
theorem own_mvMN {Z : State} {a0 args' : Array Value} {own host : String} {y : MethodName} {index : Nat} (hZ : Z.Warmed39 s.vm) (w : (Cond.methodLinkNest own index y host).before a0 Z = true) : (Cond.methodLinkNest own index y host).before args' s = true := (Cond.methodLinkNest_wide hZ w :)
theorem own_nar01 {z : Int32} (h : z = 0 ∨ z = 1) : nar .boolean z = z := by rcases h with rfl | rfl <;> decide
end OwnGo
end Jvm.RoadKit
namespace Jvm.Pilot.@@N@@
open Jvm Jvm.ClassFile Sem Op Lib Jvm.Free Jvm.Stand Jvm.LawKit Jvm.RoadKit Bundle Jvm.Pilot.@@N@@.Jvm.D
def own_max (a b : Int64) : Int64 := if a < b then b else a
def own_min (a b : Int64) : Int64 := if b < a then b else a
theorem d8_0 : decode jdk_29_method_66_code 0 = .ok (.lload_n 0, 1) := by decide +kernel
theorem d8_1 : decode jdk_29_method_66_code 1 = .ok (.lload_n 2, 1) := by decide +kernel
theorem d8_2 : decode jdk_29_method_66_code 2 = .ok (.lcmp, 1) := by decide +kernel
theorem d8_3 : decode jdk_29_method_66_code 3 = .ok (.ifCond .lt 7, 3) := by decide +kernel
theorem d8_6 : decode jdk_29_method_66_code 6 = .ok (.lload_n 0, 1) := by decide +kernel
theorem d8_7 : decode jdk_29_method_66_code 7 = .ok (.goto 4, 3) := by decide +kernel
theorem d8_10 : decode jdk_29_method_66_code 10 = .ok (.lload_n 2, 1) := by decide +kernel
theorem d8_11 : decode jdk_29_method_66_code 11 = .ok (.lreturn, 1) := by decide +kernel
theorem ef_rmMax (m : MethodId) (ja : Int64) (jb : Int64) : entryFrame m #[(.long ja), (.long jb)] 4 = mkF m 0 #[.val (.long ja), .second, .val (.long jb), .second] [] := by first | (simp [entryFrame, mkF, argsToLocals, Value.category]; done) | rfl
def Q_rmMax (Z : State) (ja : Int64) (jb : Int64) (h0 : Heap) (n0 : Nat) (v : Option Value) (h : Heap) (L : List Loc) : Prop := (v = some (.long (own_max ja jb))) ∧ (Fr n0 L) ∧ (h = h0)
set_option maxRecDepth 65536 in
set_option maxHeartbeats 40000000 in
theorem rmMax (l : Launch) (Z : State) (a0 : Array Value) (hw : ∀ d ∈ tables_1, d.before a0 Z = true) (ws : List Jvm.Cond) (ja : Int64) (jb : Int64) (h0 : Heap) (n0 : Nat) (Z0 : n0 ≤ h0.size) :
    MetFree l (⟨"java/lang/Math", "max", "(JJ)J"⟩ : MethodName) (head1 (Jvm.Cond.code (⟨"java/lang/Math", "max", "(JJ)J"⟩ : MethodName) jdk_29_method_66_code 4 (some .long) :: ws) ({ frames := 0, cells := 0, slots := 0, locals := 0 } : Room)) (fun aA U => aA = #[(.long ja), (.long jb)] ∧ Z.Warmed39 U.vm ∧ U.heap = h0) (fun _ _ _ _ _ => True) (fun _ U o U' => ∃ v L, o = .returned v ∧ Q_rmMax Z ja jb h0 n0 v U'.heap L ∧ FrameEnd U o U' L ({ frames := 0, cells := 0, slots := 0, locals := 0 } : Room).cells ({ frames := 0, cells := 0, slots := 0, locals := 0 } : Room).slots) := by
  refine MetFree.of_bodySF (Jvm.Free.JP.mathPlain rfl (by decide +kernel)) hisR ?_
  intro p e s m args below meth c s₁ Bd hml0 hP hK
  obtain ⟨rfl, hZ, hh⟩ := hP
  have hx := Bd.exec
  have hby := Bd.bytes
  have hml : c.maxLocals = 4 := hml0
  have hown : s.vm.findClass "java/lang/Math" = some m.cls := findClass_of_methodNamed Bd.named
  have hnm := (name_of_methodNamed Bd.named Bd.method).1
  have hret := Bd.returns
  have hlk : meth.locks = false := BodyLoose.notSynchronized Bd
  have X0 : Stand p l e ({ frames := 0, cells := 0, slots := 0, locals := 0 } : Room) s m #[(.long ja), (.long jb)] below meth c s₁ [] 0 0 := Stand.of_body Bd
  have e0 : s₁.heap = h0 := by rw [← hh, Bd.state]; rfl
  have N0 := Fr.nil n0
  suffices hgo : Go p e below s ({ frames := 0, cells := 0, slots := 0, locals := 0 } : Room).cells ({ frames := 0, cells := 0, slots := 0, locals := 0 } : Room).slots (Q_rmMax Z ja jb h0 n0) s₁ (mkF m 0 #[.val (.long ja), .second, .val (.long jb), .second] []) from hgo.enter (ef_rmMax m ja jb)
  refine Go.step (fun _ k => XS.lloadN X0.here hx rfl (hb hby d8_0) rfl k) ?_
  show Go _ _ _ _ _ _ _ s₁ (mkF m 1 #[.val (.long ja), .second, .val (.long jb), .second] [(.long ja)])
  refine Go.step (fun _ k => XS.lloadN X0.here hx rfl (hb hby d8_1) rfl k) ?_
  show Go _ _ _ _ _ _ _ s₁ (mkF m 2 #[.val (.long ja), .second, .val (.long jb), .second] [(.long jb), (.long ja)])
  refine Go.step (fun _ k => XS.lcmp X0.here hx rfl (hb hby d8_2) rfl k) ?_
  show Go _ _ _ _ _ _ _ s₁ (mkF m 3 #[.val (.long ja), .second, .val (.long jb), .second] [(.int (lcmpW ja jb))])
  by_cases hc3_1 : ja < jb
  · refine Go.step (fun _ k => XS.ifYes X0.here hx rfl (pc0 := 3) (pc' := 10) rfl (hb hby d8_3) rfl ((if0 _ _).trans (tlt ((lw_lt _ _).mpr hc3_1)).1) (by decide) (by decide) k) ?_
    show Go _ _ _ _ _ _ _ s₁ (mkF m 10 #[.val (.long ja), .second, .val (.long jb), .second] [])
    refine Go.step (fun _ k => XS.lloadN X0.here hx rfl (hb hby d8_10) rfl k) ?_
    show Go _ _ _ _ _ _ _ s₁ (mkF m 11 #[.val (.long ja), .second, .val (.long jb), .second] [(.long jb)])
    exact Go.retJ X0 hx hret hlk (hb hby d8_11) e0 (by decide) (by decide) ⟨(congrArg (fun z => some (Value.long z)) (if_pos hc3_1).symm), N0, rfl⟩
  · refine Go.step (fun _ k => XS.ifNo X0.here hx rfl (hb hby d8_3) rfl ((if0 _ _).trans (flt (mt (lw_lt _ _).mp hc3_1)).1) k) ?_
    show Go _ _ _ _ _ _ _ s₁ (mkF m 6 #[.val (.long ja), .second, .val (.long jb), .second] [])
    refine Go.step (fun _ k => XS.lloadN X0.here hx rfl (hb hby d8_6) rfl k) ?_
    show Go _ _ _ _ _ _ _ s₁ (mkF m 7 #[.val (.long ja), .second, .val (.long jb), .second] [(.long ja)])
    refine Go.step (fun _ k => XS.goto X0.here hx rfl (pc0 := 7) (pc' := 11) rfl (hb hby d8_7) (by decide) (by decide) k) ?_
    show Go _ _ _ _ _ _ _ s₁ (mkF m 11 #[.val (.long ja), .second, .val (.long jb), .second] [(.long ja)])
    exact Go.retJ X0 hx hret hlk (hb hby d8_11) e0 (by decide) (by decide) ⟨(congrArg (fun z => some (Value.long z)) (if_neg hc3_1).symm), N0, rfl⟩
theorem d12_0 : decode jdk_29_method_70_code 0 = .ok (.lload_n 0, 1) := by decide +kernel
theorem d12_1 : decode jdk_29_method_70_code 1 = .ok (.lload_n 2, 1) := by decide +kernel
theorem d12_2 : decode jdk_29_method_70_code 2 = .ok (.lcmp, 1) := by decide +kernel
theorem d12_3 : decode jdk_29_method_70_code 3 = .ok (.ifCond .gt 7, 3) := by decide +kernel
theorem d12_6 : decode jdk_29_method_70_code 6 = .ok (.lload_n 0, 1) := by decide +kernel
theorem d12_7 : decode jdk_29_method_70_code 7 = .ok (.goto 4, 3) := by decide +kernel
theorem d12_10 : decode jdk_29_method_70_code 10 = .ok (.lload_n 2, 1) := by decide +kernel
theorem d12_11 : decode jdk_29_method_70_code 11 = .ok (.lreturn, 1) := by decide +kernel
theorem ef_rmMin (m : MethodId) (ja : Int64) (jb : Int64) : entryFrame m #[(.long ja), (.long jb)] 4 = mkF m 0 #[.val (.long ja), .second, .val (.long jb), .second] [] := by first | (simp [entryFrame, mkF, argsToLocals, Value.category]; done) | rfl
def Q_rmMin (Z : State) (ja : Int64) (jb : Int64) (h0 : Heap) (n0 : Nat) (v : Option Value) (h : Heap) (L : List Loc) : Prop := (v = some (.long (own_min ja jb))) ∧ (Fr n0 L) ∧ (h = h0)
set_option maxRecDepth 65536 in
set_option maxHeartbeats 40000000 in
theorem rmMin (l : Launch) (Z : State) (a0 : Array Value) (hw : ∀ d ∈ tables_1, d.before a0 Z = true) (ws : List Jvm.Cond) (ja : Int64) (jb : Int64) (h0 : Heap) (n0 : Nat) (Z0 : n0 ≤ h0.size) :
    MetFree l (⟨"java/lang/Math", "min", "(JJ)J"⟩ : MethodName) (head1 (Jvm.Cond.code (⟨"java/lang/Math", "min", "(JJ)J"⟩ : MethodName) jdk_29_method_70_code 4 (some .long) :: ws) ({ frames := 0, cells := 0, slots := 0, locals := 0 } : Room)) (fun aA U => aA = #[(.long ja), (.long jb)] ∧ Z.Warmed39 U.vm ∧ U.heap = h0) (fun _ _ _ _ _ => True) (fun _ U o U' => ∃ v L, o = .returned v ∧ Q_rmMin Z ja jb h0 n0 v U'.heap L ∧ FrameEnd U o U' L ({ frames := 0, cells := 0, slots := 0, locals := 0 } : Room).cells ({ frames := 0, cells := 0, slots := 0, locals := 0 } : Room).slots) := by
  refine MetFree.of_bodySF (Jvm.Free.JP.mathPlain rfl (by decide +kernel)) hisR ?_
  intro p e s m args below meth c s₁ Bd hml0 hP hK
  obtain ⟨rfl, hZ, hh⟩ := hP
  have hx := Bd.exec
  have hby := Bd.bytes
  have hml : c.maxLocals = 4 := hml0
  have hown : s.vm.findClass "java/lang/Math" = some m.cls := findClass_of_methodNamed Bd.named
  have hnm := (name_of_methodNamed Bd.named Bd.method).1
  have hret := Bd.returns
  have hlk : meth.locks = false := BodyLoose.notSynchronized Bd
  have X0 : Stand p l e ({ frames := 0, cells := 0, slots := 0, locals := 0 } : Room) s m #[(.long ja), (.long jb)] below meth c s₁ [] 0 0 := Stand.of_body Bd
  have e0 : s₁.heap = h0 := by rw [← hh, Bd.state]; rfl
  have N0 := Fr.nil n0
  suffices hgo : Go p e below s ({ frames := 0, cells := 0, slots := 0, locals := 0 } : Room).cells ({ frames := 0, cells := 0, slots := 0, locals := 0 } : Room).slots (Q_rmMin Z ja jb h0 n0) s₁ (mkF m 0 #[.val (.long ja), .second, .val (.long jb), .second] []) from hgo.enter (ef_rmMin m ja jb)
  refine Go.step (fun _ k => XS.lloadN X0.here hx rfl (hb hby d12_0) rfl k) ?_
  show Go _ _ _ _ _ _ _ s₁ (mkF m 1 #[.val (.long ja), .second, .val (.long jb), .second] [(.long ja)])
  refine Go.step (fun _ k => XS.lloadN X0.here hx rfl (hb hby d12_1) rfl k) ?_
  show Go _ _ _ _ _ _ _ s₁ (mkF m 2 #[.val (.long ja), .second, .val (.long jb), .second] [(.long jb), (.long ja)])
  refine Go.step (fun _ k => XS.lcmp X0.here hx rfl (hb hby d12_2) rfl k) ?_
  show Go _ _ _ _ _ _ _ s₁ (mkF m 3 #[.val (.long ja), .second, .val (.long jb), .second] [(.int (lcmpW ja jb))])
  by_cases hc3_2 : jb < ja
  · refine Go.step (fun _ k => XS.ifYes X0.here hx rfl (pc0 := 3) (pc' := 10) rfl (hb hby d12_3) rfl ((if0 _ _).trans (tlt ((lw_gt _ _).mpr hc3_2)).2.2.1) (by decide) (by decide) k) ?_
    show Go _ _ _ _ _ _ _ s₁ (mkF m 10 #[.val (.long ja), .second, .val (.long jb), .second] [])
    refine Go.step (fun _ k => XS.lloadN X0.here hx rfl (hb hby d12_10) rfl k) ?_
    show Go _ _ _ _ _ _ _ s₁ (mkF m 11 #[.val (.long ja), .second, .val (.long jb), .second] [(.long jb)])
    exact Go.retJ X0 hx hret hlk (hb hby d12_11) e0 (by decide) (by decide) ⟨(congrArg (fun z => some (Value.long z)) (if_pos hc3_2).symm), N0, rfl⟩
  · refine Go.step (fun _ k => XS.ifNo X0.here hx rfl (hb hby d12_3) rfl ((if0 _ _).trans (flt (mt (lw_gt _ _).mp hc3_2)).2.2.1) k) ?_
    show Go _ _ _ _ _ _ _ s₁ (mkF m 6 #[.val (.long ja), .second, .val (.long jb), .second] [])
    refine Go.step (fun _ k => XS.lloadN X0.here hx rfl (hb hby d12_6) rfl k) ?_
    show Go _ _ _ _ _ _ _ s₁ (mkF m 7 #[.val (.long ja), .second, .val (.long jb), .second] [(.long ja)])
    refine Go.step (fun _ k => XS.goto X0.here hx rfl (pc0 := 7) (pc' := 11) rfl (hb hby d12_7) (by decide) (by decide) k) ?_
    show Go _ _ _ _ _ _ _ s₁ (mkF m 11 #[.val (.long ja), .second, .val (.long jb), .second] [(.long ja)])
    exact Go.retJ X0 hx hret hlk (hb hby d12_11) e0 (by decide) (by decide) ⟨(congrArg (fun z => some (Value.long z)) (if_neg hc3_2).symm), N0, rfl⟩
theorem d11_0 : decode jdk_33_method_47_code 0 = .ok (.iload_n 0, 1) := by decide +kernel
theorem d11_1 : decode jdk_33_method_47_code 1 = .ok (.ifCond .gt 14, 3) := by decide +kernel
theorem d11_4 : decode jdk_33_method_47_code 4 = .ok (.iload_n 0, 1) := by decide +kernel
theorem d11_5 : decode jdk_33_method_47_code 5 = .ok (.ifCond .ne 8, 3) := by decide +kernel
theorem d11_8 : decode jdk_33_method_47_code 8 = .ok (.bipush 32, 2) := by decide +kernel
theorem d11_10 : decode jdk_33_method_47_code 10 = .ok (.goto 4, 3) := by decide +kernel
theorem d11_13 : decode jdk_33_method_47_code 13 = .ok (.iconst 0, 1) := by decide +kernel
theorem d11_14 : decode jdk_33_method_47_code 14 = .ok (.ireturn, 1) := by decide +kernel
theorem d11_15 : decode jdk_33_method_47_code 15 = .ok (.bipush 31, 2) := by decide +kernel
theorem d11_17 : decode jdk_33_method_47_code 17 = .ok (.istore_n 1, 1) := by decide +kernel
theorem d11_18 : decode jdk_33_method_47_code 18 = .ok (.iload_n 0, 1) := by decide +kernel
theorem d11_19 : decode jdk_33_method_47_code 19 = .ok (.ldc_w 264, 3) := by decide +kernel
theorem d11_22 : decode jdk_33_method_47_code 22 = .ok (.if_icmp .lt 11, 3) := by decide +kernel
theorem d11_25 : decode jdk_33_method_47_code 25 = .ok (.iinc 1 (-16), 3) := by decide +kernel
theorem d11_28 : decode jdk_33_method_47_code 28 = .ok (.iload_n 0, 1) := by decide +kernel
theorem d11_29 : decode jdk_33_method_47_code 29 = .ok (.bipush 16, 2) := by decide +kernel
theorem d11_31 : decode jdk_33_method_47_code 31 = .ok (.iushr, 1) := by decide +kernel
theorem d11_32 : decode jdk_33_method_47_code 32 = .ok (.istore_n 0, 1) := by decide +kernel
theorem d11_33 : decode jdk_33_method_47_code 33 = .ok (.iload_n 0, 1) := by decide +kernel
theorem d11_34 : decode jdk_33_method_47_code 34 = .ok (.sipush 256, 3) := by decide +kernel
theorem d11_37 : decode jdk_33_method_47_code 37 = .ok (.if_icmp .lt 11, 3) := by decide +kernel
theorem d11_40 : decode jdk_33_method_47_code 40 = .ok (.iinc 1 (-8), 3) := by decide +kernel
theorem d11_43 : decode jdk_33_method_47_code 43 = .ok (.iload_n 0, 1) := by decide +kernel
theorem d11_44 : decode jdk_33_method_47_code 44 = .ok (.bipush 8, 2) := by decide +kernel
theorem d11_46 : decode jdk_33_method_47_code 46 = .ok (.iushr, 1) := by decide +kernel
theorem d11_47 : decode jdk_33_method_47_code 47 = .ok (.istore_n 0, 1) := by decide +kernel
theorem d11_48 : decode jdk_33_method_47_code 48 = .ok (.iload_n 0, 1) := by decide +kernel
theorem d11_49 : decode jdk_33_method_47_code 49 = .ok (.bipush 16, 2) := by decide +kernel
theorem d11_51 : decode jdk_33_method_47_code 51 = .ok (.if_icmp .lt 10, 3) := by decide +kernel
theorem d11_54 : decode jdk_33_method_47_code 54 = .ok (.iinc 1 (-4), 3) := by decide +kernel
theorem d11_57 : decode jdk_33_method_47_code 57 = .ok (.iload_n 0, 1) := by decide +kernel
theorem d11_58 : decode jdk_33_method_47_code 58 = .ok (.iconst 4, 1) := by decide +kernel
theorem d11_59 : decode jdk_33_method_47_code 59 = .ok (.iushr, 1) := by decide +kernel
theorem d11_60 : decode jdk_33_method_47_code 60 = .ok (.istore_n 0, 1) := by decide +kernel
theorem d11_61 : decode jdk_33_method_47_code 61 = .ok (.iload_n 0, 1) := by decide +kernel
theorem d11_62 : decode jdk_33_method_47_code 62 = .ok (.iconst 4, 1) := by decide +kernel
theorem d11_63 : decode jdk_33_method_47_code 63 = .ok (.if_icmp .lt 10, 3) := by decide +kernel
theorem d11_66 : decode jdk_33_method_47_code 66 = .ok (.iinc 1 (-2), 3) := by decide +kernel
theorem d11_69 : decode jdk_33_method_47_code 69 = .ok (.iload_n 0, 1) := by decide +kernel
theorem d11_70 : decode jdk_33_method_47_code 70 = .ok (.iconst 2, 1) := by decide +kernel
theorem d11_71 : decode jdk_33_method_47_code 71 = .ok (.iushr, 1) := by decide +kernel
theorem d11_72 : decode jdk_33_method_47_code 72 = .ok (.istore_n 0, 1) := by decide +kernel
theorem d11_73 : decode jdk_33_method_47_code 73 = .ok (.iload_n 1, 1) := by decide +kernel
theorem d11_74 : decode jdk_33_method_47_code 74 = .ok (.iload_n 0, 1) := by decide +kernel
theorem d11_75 : decode jdk_33_method_47_code 75 = .ok (.iconst 1, 1) := by decide +kernel
theorem d11_76 : decode jdk_33_method_47_code 76 = .ok (.iushr, 1) := by decide +kernel
theorem d11_77 : decode jdk_33_method_47_code 77 = .ok (.isub, 1) := by decide +kernel
theorem d11_78 : decode jdk_33_method_47_code 78 = .ok (.ireturn, 1) := by decide +kernel
theorem pn_java_lang_Integer : plainName "java/lang/Integer" = true := by first | (simp [plainName, overriddenIn]; done) | decide +kernel
theorem ef_rmNI0 (m : MethodId)  : entryFrame m #[(.int (0 : Int32))] 2 = mkF m 0 #[.val (.int (0 : Int32)), .unset] [] := by first | (simp [entryFrame, mkF, argsToLocals, Value.category]; done) | rfl
def Q_rmNI0 (Z : State)  (h0 : Heap) (n0 : Nat) (v : Option Value) (h : Heap) (L : List Loc) : Prop := (v = some (.int (32 : Int32))) ∧ (Fr n0 L) ∧ (h = h0)
set_option maxRecDepth 65536 in
set_option maxHeartbeats 40000000 in
theorem rmNI0 (l : Launch) (Z : State) (a0 : Array Value) (hw : ∀ d ∈ tables_1, d.before a0 Z = true) (ws : List Jvm.Cond)  (h0 : Heap) (n0 : Nat) (Z0 : n0 ≤ h0.size) :
    MetFree l (⟨"java/lang/Integer", "numberOfLeadingZeros", "(I)I"⟩ : MethodName) (head1 (Jvm.Cond.code (⟨"java/lang/Integer", "numberOfLeadingZeros", "(I)I"⟩ : MethodName) jdk_33_method_47_code 2 (some .int) :: ws) ({ frames := 0, cells := 0, slots := 0, locals := 0 } : Room)) (fun aA U => aA = #[(.int (0 : Int32))] ∧ Z.Warmed39 U.vm ∧ U.heap = h0) (fun _ _ _ _ _ => True) (fun _ U o U' => ∃ v L, o = .returned v ∧ Q_rmNI0 Z  h0 n0 v U'.heap L ∧ FrameEnd U o U' L ({ frames := 0, cells := 0, slots := 0, locals := 0 } : Room).cells ({ frames := 0, cells := 0, slots := 0, locals := 0 } : Room).slots) := by
  refine MetFree.of_bodySF (plainFor_of_name pn_java_lang_Integer) hisR ?_
  intro p e s m args below meth c s₁ Bd hml0 hP hK
  obtain ⟨rfl, hZ, hh⟩ := hP
  have hx := Bd.exec
  have hby := Bd.bytes
  have hml : c.maxLocals = 2 := hml0
  have hown : s.vm.findClass "java/lang/Integer" = some m.cls := findClass_of_methodNamed Bd.named
  have hnm := (name_of_methodNamed Bd.named Bd.method).1
  have hret := Bd.returns
  have hlk : meth.locks = false := BodyLoose.notSynchronized Bd
  have X0 : Stand p l e ({ frames := 0, cells := 0, slots := 0, locals := 0 } : Room) s m #[(.int (0 : Int32))] below meth c s₁ [] 0 0 := Stand.of_body Bd
  have e0 : s₁.heap = h0 := by rw [← hh, Bd.state]; rfl
  have N0 := Fr.nil n0
  suffices hgo : Go p e below s ({ frames := 0, cells := 0, slots := 0, locals := 0 } : Room).cells ({ frames := 0, cells := 0, slots := 0, locals := 0 } : Room).slots (Q_rmNI0 Z  h0 n0) s₁ (mkF m 0 #[.val (.int (0 : Int32)), .unset] []) from hgo.enter (ef_rmNI0 m )
  refine Go.step (fun _ k => XS.iloadN X0.here hx rfl (hb hby d11_0) rfl k) ?_
  show Go _ _ _ _ _ _ _ s₁ (mkF m 1 #[.val (.int (0 : Int32)), .unset] [(.int (0 : Int32))])
  have hc1_3 : ¬ ((0 : Int32) < (0 : Int32)) := (by decide)
  refine Go.step (fun _ k => XS.ifNo X0.here hx rfl (hb hby d11_1) rfl ((if0 _ _).trans (flt hc1_3).2.2.1) k) ?_
  show Go _ _ _ _ _ _ _ s₁ (mkF m 4 #[.val (.int (0 : Int32)), .unset] [])
  refine Go.step (fun _ k => XS.iloadN X0.here hx rfl (hb hby d11_4) rfl k) ?_
  show Go _ _ _ _ _ _ _ s₁ (mkF m 5 #[.val (.int (0 : Int32)), .unset] [(.int (0 : Int32))])
  have hc5_4 : (0 : Int32) = (0 : Int32) := (by decide)
  refine Go.step (fun _ k => XS.ifNo X0.here hx rfl (hb hby d11_5) rfl ((if0 _ _).trans (teq hc5_4).2) k) ?_
  show Go _ _ _ _ _ _ _ s₁ (mkF m 8 #[.val (.int (0 : Int32)), .unset] [])
  refine Go.step (fun _ k => XS.bipush X0.here hx rfl (hb hby d11_8) k) ?_
  show Go _ _ _ _ _ _ _ s₁ (mkF m 10 #[.val (.int (0 : Int32)), .unset] [(.int (32 : Int32))])
  refine Go.step (fun _ k => XS.goto X0.here hx rfl (pc0 := 10) (pc' := 14) rfl (hb hby d11_10) (by decide) (by decide) k) ?_
  show Go _ _ _ _ _ _ _ s₁ (mkF m 14 #[.val (.int (0 : Int32)), .unset] [(.int (32 : Int32))])
  exact Go.retI X0 hx hret hlk (hb hby d11_14) e0 (by decide) (by decide) ⟨rfl, N0, rfl⟩
theorem ef_rmNI255 (m : MethodId)  : entryFrame m #[(.int (255 : Int32))] 2 = mkF m 0 #[.val (.int (255 : Int32)), .unset] [] := by first | (simp [entryFrame, mkF, argsToLocals, Value.category]; done) | rfl
def Q_rmNI255 (Z : State)  (h0 : Heap) (n0 : Nat) (v : Option Value) (h : Heap) (L : List Loc) : Prop := (v = some (.int (24 : Int32))) ∧ (Fr n0 L) ∧ (h = h0)
set_option maxRecDepth 65536 in
set_option maxHeartbeats 40000000 in
theorem rmNI255 (l : Launch) (Z : State) (a0 : Array Value) (hw : ∀ d ∈ tables_1, d.before a0 Z = true) (ws : List Jvm.Cond)  (h0 : Heap) (n0 : Nat) (Z0 : n0 ≤ h0.size) :
    MetFree l (⟨"java/lang/Integer", "numberOfLeadingZeros", "(I)I"⟩ : MethodName) (head1 (Jvm.Cond.code (⟨"java/lang/Integer", "numberOfLeadingZeros", "(I)I"⟩ : MethodName) jdk_33_method_47_code 2 (some .int) :: ws) ({ frames := 0, cells := 0, slots := 0, locals := 0 } : Room)) (fun aA U => aA = #[(.int (255 : Int32))] ∧ Z.Warmed39 U.vm ∧ U.heap = h0) (fun _ _ _ _ _ => True) (fun _ U o U' => ∃ v L, o = .returned v ∧ Q_rmNI255 Z  h0 n0 v U'.heap L ∧ FrameEnd U o U' L ({ frames := 0, cells := 0, slots := 0, locals := 0 } : Room).cells ({ frames := 0, cells := 0, slots := 0, locals := 0 } : Room).slots) := by
  refine MetFree.of_bodySF (plainFor_of_name pn_java_lang_Integer) hisR ?_
  intro p e s m args below meth c s₁ Bd hml0 hP hK
  obtain ⟨rfl, hZ, hh⟩ := hP
  have hx := Bd.exec
  have hby := Bd.bytes
  have hml : c.maxLocals = 2 := hml0
  have hown : s.vm.findClass "java/lang/Integer" = some m.cls := findClass_of_methodNamed Bd.named
  have hnm := (name_of_methodNamed Bd.named Bd.method).1
  have hret := Bd.returns
  have hlk : meth.locks = false := BodyLoose.notSynchronized Bd
  have X0 : Stand p l e ({ frames := 0, cells := 0, slots := 0, locals := 0 } : Room) s m #[(.int (255 : Int32))] below meth c s₁ [] 0 0 := Stand.of_body Bd
  have e0 : s₁.heap = h0 := by rw [← hh, Bd.state]; rfl
  have N0 := Fr.nil n0
  suffices hgo : Go p e below s ({ frames := 0, cells := 0, slots := 0, locals := 0 } : Room).cells ({ frames := 0, cells := 0, slots := 0, locals := 0 } : Room).slots (Q_rmNI255 Z  h0 n0) s₁ (mkF m 0 #[.val (.int (255 : Int32)), .unset] []) from hgo.enter (ef_rmNI255 m )
  refine Go.step (fun _ k => XS.iloadN X0.here hx rfl (hb hby d11_0) rfl k) ?_
  show Go _ _ _ _ _ _ _ s₁ (mkF m 1 #[.val (.int (255 : Int32)), .unset] [(.int (255 : Int32))])
  have hc1_5 : (0 : Int32) < (255 : Int32) := (by decide)
  refine Go.step (fun _ k => XS.ifYes X0.here hx rfl (pc0 := 1) (pc' := 15) rfl (hb hby d11_1) rfl ((if0 _ _).trans (tlt hc1_5).2.2.1) (by decide) (by decide) k) ?_
  show Go _ _ _ _ _ _ _ s₁ (mkF m 15 #[.val (.int (255 : Int32)), .unset] [])
  refine Go.step (fun _ k => XS.bipush X0.here hx rfl (hb hby d11_15) k) ?_
  show Go _ _ _ _ _ _ _ s₁ (mkF m 17 #[.val (.int (255 : Int32)), .unset] [(.int (31 : Int32))])
  refine Go.step (fun _ k => XS.istoreN X0.here hx rfl (hb hby d11_17) rfl (l' := #[.val (.int (255 : Int32)), .val (.int (31 : Int32))]) rfl k) ?_
  show Go _ _ _ _ _ _ _ s₁ (mkF m 18 #[.val (.int (255 : Int32)), .val (.int (31 : Int32))] [])
  refine Go.step (fun _ k => XS.iloadN X0.here hx rfl (hb hby d11_18) rfl k) ?_
  show Go _ _ _ _ _ _ _ s₁ (mkF m 19 #[.val (.int (255 : Int32)), .val (.int (31 : Int32))] [(.int (255 : Int32))])
  refine Go.step (X0.ldcwInt hx hown (mvT hZ (hw _ (List.mem_of_getElem? (i := 60) rfl))) (g := (mkF m 19 #[.val (.int (255 : Int32)), .val (.int (31 : Int32))] [(.int (255 : Int32))])) rfl (hb hby d11_19)) ?_
  show Go _ _ _ _ _ _ _ s₁ (mkF m 22 #[.val (.int (255 : Int32)), .val (.int (31 : Int32))] [(.int (65536 : Int32)), (.int (255 : Int32))])
  have hc22_6 : (255 : Int32) < (65536 : Int32) := (by decide)
  refine Go.step (fun _ k => XS.icmpYes X0.here hx rfl (pc0 := 22) (pc' := 33) rfl (hb hby d11_22) rfl (tlt hc22_6).1 (by decide) (by decide) k) ?_
  show Go _ _ _ _ _ _ _ s₁ (mkF m 33 #[.val (.int (255 : Int32)), .val (.int (31 : Int32))] [])
  refine Go.step (fun _ k => XS.iloadN X0.here hx rfl (hb hby d11_33) rfl k) ?_
  show Go _ _ _ _ _ _ _ s₁ (mkF m 34 #[.val (.int (255 : Int32)), .val (.int (31 : Int32))] [(.int (255 : Int32))])
  refine Go.step (fun _ k => XS.sipush X0.here hx rfl (hb hby d11_34) k) ?_
  show Go _ _ _ _ _ _ _ s₁ (mkF m 37 #[.val (.int (255 : Int32)), .val (.int (31 : Int32))] [(.int (256 : Int32)), (.int (255 : Int32))])
  have hc37_7 : (255 : Int32) < (256 : Int32) := (by decide)
  refine Go.step (fun _ k => XS.icmpYes X0.here hx rfl (pc0 := 37) (pc' := 48) rfl (hb hby d11_37) rfl (tlt hc37_7).1 (by decide) (by decide) k) ?_
  show Go _ _ _ _ _ _ _ s₁ (mkF m 48 #[.val (.int (255 : Int32)), .val (.int (31 : Int32))] [])
  refine Go.step (fun _ k => XS.iloadN X0.here hx rfl (hb hby d11_48) rfl k) ?_
  show Go _ _ _ _ _ _ _ s₁ (mkF m 49 #[.val (.int (255 : Int32)), .val (.int (31 : Int32))] [(.int (255 : Int32))])
  refine Go.step (fun _ k => XS.bipush X0.here hx rfl (hb hby d11_49) k) ?_
  show Go _ _ _ _ _ _ _ s₁ (mkF m 51 #[.val (.int (255 : Int32)), .val (.int (31 : Int32))] [(.int (16 : Int32)), (.int (255 : Int32))])
  have hc51_8 : ¬ ((255 : Int32) < (16 : Int32)) := (by decide)
  refine Go.step (fun _ k => XS.icmpNo X0.here hx rfl (hb hby d11_51) rfl (flt hc51_8).1 k) ?_
  show Go _ _ _ _ _ _ _ s₁ (mkF m 54 #[.val (.int (255 : Int32)), .val (.int (31 : Int32))] [])
  refine Go.step (fun _ k => XS.iinc X0.here hx rfl (hb hby d11_54) rfl (l' := #[.val (.int (255 : Int32)), .val (.int (27 : Int32))]) rfl k) ?_
  show Go _ _ _ _ _ _ _ s₁ (mkF m 57 #[.val (.int (255 : Int32)), .val (.int (27 : Int32))] [])
  refine Go.step (fun _ k => XS.iloadN X0.here hx rfl (hb hby d11_57) rfl k) ?_
  show Go _ _ _ _ _ _ _ s₁ (mkF m 58 #[.val (.int (255 : Int32)), .val (.int (27 : Int32))] [(.int (255 : Int32))])
  refine Go.step (fun _ k => XS.iconst X0.here hx rfl (hb hby d11_58) k) ?_
  show Go _ _ _ _ _ _ _ s₁ (mkF m 59 #[.val (.int (255 : Int32)), .val (.int (27 : Int32))] [(.int (4 : Int32)), (.int (255 : Int32))])
  refine Go.step (fun _ k => XS.iushr X0.here hx rfl (hb hby d11_59) rfl k) ?_
  show Go _ _ _ _ _ _ _ s₁ (mkF m 60 #[.val (.int (255 : Int32)), .val (.int (27 : Int32))] [(.int (15 : Int32))])
  refine Go.step (fun _ k => XS.istoreN X0.here hx rfl (hb hby d11_60) rfl (l' := #[.val (.int (15 : Int32)), .val (.int (27 : Int32))]) rfl k) ?_
  show Go _ _ _ _ _ _ _ s₁ (mkF m 61 #[.val (.int (15 : Int32)), .val (.int (27 : Int32))] [])
  refine Go.step (fun _ k => XS.iloadN X0.here hx rfl (hb hby d11_61) rfl k) ?_
  show Go _ _ _ _ _ _ _ s₁ (mkF m 62 #[.val (.int (15 : Int32)), .val (.int (27 : Int32))] [(.int (15 : Int32))])
  refine Go.step (fun _ k => XS.iconst X0.here hx rfl (hb hby d11_62) k) ?_
  show Go _ _ _ _ _ _ _ s₁ (mkF m 63 #[.val (.int (15 : Int32)), .val (.int (27 : Int32))] [(.int (4 : Int32)), (.int (15 : Int32))])
  have hc63_9 : ¬ ((15 : Int32) < (4 : Int32)) := (by decide)
  refine Go.step (fun _ k => XS.icmpNo X0.here hx rfl (hb hby d11_63) rfl (flt hc63_9).1 k) ?_
  show Go _ _ _ _ _ _ _ s₁ (mkF m 66 #[.val (.int (15 : Int32)), .val (.int (27 : Int32))] [])
  refine Go.step (fun _ k => XS.iinc X0.here hx rfl (hb hby d11_66) rfl (l' := #[.val (.int (15 : Int32)), .val (.int (25 : Int32))]) rfl k) ?_
  show Go _ _ _ _ _ _ _ s₁ (mkF m 69 #[.val (.int (15 : Int32)), .val (.int (25 : Int32))] [])
  refine Go.step (fun _ k => XS.iloadN X0.here hx rfl (hb hby d11_69) rfl k) ?_
  show Go _ _ _ _ _ _ _ s₁ (mkF m 70 #[.val (.int (15 : Int32)), .val (.int (25 : Int32))] [(.int (15 : Int32))])
  refine Go.step (fun _ k => XS.iconst X0.here hx rfl (hb hby d11_70) k) ?_
  show Go _ _ _ _ _ _ _ s₁ (mkF m 71 #[.val (.int (15 : Int32)), .val (.int (25 : Int32))] [(.int (2 : Int32)), (.int (15 : Int32))])
  refine Go.step (fun _ k => XS.iushr X0.here hx rfl (hb hby d11_71) rfl k) ?_
  show Go _ _ _ _ _ _ _ s₁ (mkF m 72 #[.val (.int (15 : Int32)), .val (.int (25 : Int32))] [(.int (3 : Int32))])
  refine Go.step (fun _ k => XS.istoreN X0.here hx rfl (hb hby d11_72) rfl (l' := #[.val (.int (3 : Int32)), .val (.int (25 : Int32))]) rfl k) ?_
  show Go _ _ _ _ _ _ _ s₁ (mkF m 73 #[.val (.int (3 : Int32)), .val (.int (25 : Int32))] [])
  refine Go.step (fun _ k => XS.iloadN X0.here hx rfl (hb hby d11_73) rfl k) ?_
  show Go _ _ _ _ _ _ _ s₁ (mkF m 74 #[.val (.int (3 : Int32)), .val (.int (25 : Int32))] [(.int (25 : Int32))])
  refine Go.step (fun _ k => XS.iloadN X0.here hx rfl (hb hby d11_74) rfl k) ?_
  show Go _ _ _ _ _ _ _ s₁ (mkF m 75 #[.val (.int (3 : Int32)), .val (.int (25 : Int32))] [(.int (3 : Int32)), (.int (25 : Int32))])
  refine Go.step (fun _ k => XS.iconst X0.here hx rfl (hb hby d11_75) k) ?_
  show Go _ _ _ _ _ _ _ s₁ (mkF m 76 #[.val (.int (3 : Int32)), .val (.int (25 : Int32))] [(.int (1 : Int32)), (.int (3 : Int32)), (.int (25 : Int32))])
  refine Go.step (fun _ k => XS.iushr X0.here hx rfl (hb hby d11_76) rfl k) ?_
  show Go _ _ _ _ _ _ _ s₁ (mkF m 77 #[.val (.int (3 : Int32)), .val (.int (25 : Int32))] [(.int (1 : Int32)), (.int (25 : Int32))])
  refine Go.step (fun _ k => XS.isub X0.here hx rfl (hb hby d11_77) rfl k) ?_
  show Go _ _ _ _ _ _ _ s₁ (mkF m 78 #[.val (.int (3 : Int32)), .val (.int (25 : Int32))] [(.int (24 : Int32))])
  exact Go.retI X0 hx hret hlk (hb hby d11_78) e0 (by decide) (by decide) ⟨rfl, N0, rfl⟩
theorem ef_rmNI65535 (m : MethodId)  : entryFrame m #[(.int (65535 : Int32))] 2 = mkF m 0 #[.val (.int (65535 : Int32)), .unset] [] := by first | (simp [entryFrame, mkF, argsToLocals, Value.category]; done) | rfl
def Q_rmNI65535 (Z : State)  (h0 : Heap) (n0 : Nat) (v : Option Value) (h : Heap) (L : List Loc) : Prop := (v = some (.int (16 : Int32))) ∧ (Fr n0 L) ∧ (h = h0)
set_option maxRecDepth 65536 in
set_option maxHeartbeats 40000000 in
theorem rmNI65535 (l : Launch) (Z : State) (a0 : Array Value) (hw : ∀ d ∈ tables_1, d.before a0 Z = true) (ws : List Jvm.Cond)  (h0 : Heap) (n0 : Nat) (Z0 : n0 ≤ h0.size) :
    MetFree l (⟨"java/lang/Integer", "numberOfLeadingZeros", "(I)I"⟩ : MethodName) (head1 (Jvm.Cond.code (⟨"java/lang/Integer", "numberOfLeadingZeros", "(I)I"⟩ : MethodName) jdk_33_method_47_code 2 (some .int) :: ws) ({ frames := 0, cells := 0, slots := 0, locals := 0 } : Room)) (fun aA U => aA = #[(.int (65535 : Int32))] ∧ Z.Warmed39 U.vm ∧ U.heap = h0) (fun _ _ _ _ _ => True) (fun _ U o U' => ∃ v L, o = .returned v ∧ Q_rmNI65535 Z  h0 n0 v U'.heap L ∧ FrameEnd U o U' L ({ frames := 0, cells := 0, slots := 0, locals := 0 } : Room).cells ({ frames := 0, cells := 0, slots := 0, locals := 0 } : Room).slots) := by
  refine MetFree.of_bodySF (plainFor_of_name pn_java_lang_Integer) hisR ?_
  intro p e s m args below meth c s₁ Bd hml0 hP hK
  obtain ⟨rfl, hZ, hh⟩ := hP
  have hx := Bd.exec
  have hby := Bd.bytes
  have hml : c.maxLocals = 2 := hml0
  have hown : s.vm.findClass "java/lang/Integer" = some m.cls := findClass_of_methodNamed Bd.named
  have hnm := (name_of_methodNamed Bd.named Bd.method).1
  have hret := Bd.returns
  have hlk : meth.locks = false := BodyLoose.notSynchronized Bd
  have X0 : Stand p l e ({ frames := 0, cells := 0, slots := 0, locals := 0 } : Room) s m #[(.int (65535 : Int32))] below meth c s₁ [] 0 0 := Stand.of_body Bd
  have e0 : s₁.heap = h0 := by rw [← hh, Bd.state]; rfl
  have N0 := Fr.nil n0
  suffices hgo : Go p e below s ({ frames := 0, cells := 0, slots := 0, locals := 0 } : Room).cells ({ frames := 0, cells := 0, slots := 0, locals := 0 } : Room).slots (Q_rmNI65535 Z  h0 n0) s₁ (mkF m 0 #[.val (.int (65535 : Int32)), .unset] []) from hgo.enter (ef_rmNI65535 m )
  refine Go.step (fun _ k => XS.iloadN X0.here hx rfl (hb hby d11_0) rfl k) ?_
  show Go _ _ _ _ _ _ _ s₁ (mkF m 1 #[.val (.int (65535 : Int32)), .unset] [(.int (65535 : Int32))])
  have hc1_10 : (0 : Int32) < (65535 : Int32) := (by decide)
  refine Go.step (fun _ k => XS.ifYes X0.here hx rfl (pc0 := 1) (pc' := 15) rfl (hb hby d11_1) rfl ((if0 _ _).trans (tlt hc1_10).2.2.1) (by decide) (by decide) k) ?_
  show Go _ _ _ _ _ _ _ s₁ (mkF m 15 #[.val (.int (65535 : Int32)), .unset] [])
  refine Go.step (fun _ k => XS.bipush X0.here hx rfl (hb hby d11_15) k) ?_
  show Go _ _ _ _ _ _ _ s₁ (mkF m 17 #[.val (.int (65535 : Int32)), .unset] [(.int (31 : Int32))])
  refine Go.step (fun _ k => XS.istoreN X0.here hx rfl (hb hby d11_17) rfl (l' := #[.val (.int (65535 : Int32)), .val (.int (31 : Int32))]) rfl k) ?_
  show Go _ _ _ _ _ _ _ s₁ (mkF m 18 #[.val (.int (65535 : Int32)), .val (.int (31 : Int32))] [])
  refine Go.step (fun _ k => XS.iloadN X0.here hx rfl (hb hby d11_18) rfl k) ?_
  show Go _ _ _ _ _ _ _ s₁ (mkF m 19 #[.val (.int (65535 : Int32)), .val (.int (31 : Int32))] [(.int (65535 : Int32))])
  refine Go.step (X0.ldcwInt hx hown (mvT hZ (hw _ (List.mem_of_getElem? (i := 60) rfl))) (g := (mkF m 19 #[.val (.int (65535 : Int32)), .val (.int (31 : Int32))] [(.int (65535 : Int32))])) rfl (hb hby d11_19)) ?_
  show Go _ _ _ _ _ _ _ s₁ (mkF m 22 #[.val (.int (65535 : Int32)), .val (.int (31 : Int32))] [(.int (65536 : Int32)), (.int (65535 : Int32))])
  have hc22_11 : (65535 : Int32) < (65536 : Int32) := (by decide)
  refine Go.step (fun _ k => XS.icmpYes X0.here hx rfl (pc0 := 22) (pc' := 33) rfl (hb hby d11_22) rfl (tlt hc22_11).1 (by decide) (by decide) k) ?_
  show Go _ _ _ _ _ _ _ s₁ (mkF m 33 #[.val (.int (65535 : Int32)), .val (.int (31 : Int32))] [])
  refine Go.step (fun _ k => XS.iloadN X0.here hx rfl (hb hby d11_33) rfl k) ?_
  show Go _ _ _ _ _ _ _ s₁ (mkF m 34 #[.val (.int (65535 : Int32)), .val (.int (31 : Int32))] [(.int (65535 : Int32))])
  refine Go.step (fun _ k => XS.sipush X0.here hx rfl (hb hby d11_34) k) ?_
  show Go _ _ _ _ _ _ _ s₁ (mkF m 37 #[.val (.int (65535 : Int32)), .val (.int (31 : Int32))] [(.int (256 : Int32)), (.int (65535 : Int32))])
  have hc37_12 : ¬ ((65535 : Int32) < (256 : Int32)) := (by decide)
  refine Go.step (fun _ k => XS.icmpNo X0.here hx rfl (hb hby d11_37) rfl (flt hc37_12).1 k) ?_
  show Go _ _ _ _ _ _ _ s₁ (mkF m 40 #[.val (.int (65535 : Int32)), .val (.int (31 : Int32))] [])
  refine Go.step (fun _ k => XS.iinc X0.here hx rfl (hb hby d11_40) rfl (l' := #[.val (.int (65535 : Int32)), .val (.int (23 : Int32))]) rfl k) ?_
  show Go _ _ _ _ _ _ _ s₁ (mkF m 43 #[.val (.int (65535 : Int32)), .val (.int (23 : Int32))] [])
  refine Go.step (fun _ k => XS.iloadN X0.here hx rfl (hb hby d11_43) rfl k) ?_
  show Go _ _ _ _ _ _ _ s₁ (mkF m 44 #[.val (.int (65535 : Int32)), .val (.int (23 : Int32))] [(.int (65535 : Int32))])
  refine Go.step (fun _ k => XS.bipush X0.here hx rfl (hb hby d11_44) k) ?_
  show Go _ _ _ _ _ _ _ s₁ (mkF m 46 #[.val (.int (65535 : Int32)), .val (.int (23 : Int32))] [(.int (8 : Int32)), (.int (65535 : Int32))])
  refine Go.step (fun _ k => XS.iushr X0.here hx rfl (hb hby d11_46) rfl k) ?_
  show Go _ _ _ _ _ _ _ s₁ (mkF m 47 #[.val (.int (65535 : Int32)), .val (.int (23 : Int32))] [(.int (255 : Int32))])
  refine Go.step (fun _ k => XS.istoreN X0.here hx rfl (hb hby d11_47) rfl (l' := #[.val (.int (255 : Int32)), .val (.int (23 : Int32))]) rfl k) ?_
  show Go _ _ _ _ _ _ _ s₁ (mkF m 48 #[.val (.int (255 : Int32)), .val (.int (23 : Int32))] [])
  refine Go.step (fun _ k => XS.iloadN X0.here hx rfl (hb hby d11_48) rfl k) ?_
  show Go _ _ _ _ _ _ _ s₁ (mkF m 49 #[.val (.int (255 : Int32)), .val (.int (23 : Int32))] [(.int (255 : Int32))])
  refine Go.step (fun _ k => XS.bipush X0.here hx rfl (hb hby d11_49) k) ?_
  show Go _ _ _ _ _ _ _ s₁ (mkF m 51 #[.val (.int (255 : Int32)), .val (.int (23 : Int32))] [(.int (16 : Int32)), (.int (255 : Int32))])
  have hc51_13 : ¬ ((255 : Int32) < (16 : Int32)) := (by decide)
  refine Go.step (fun _ k => XS.icmpNo X0.here hx rfl (hb hby d11_51) rfl (flt hc51_13).1 k) ?_
  show Go _ _ _ _ _ _ _ s₁ (mkF m 54 #[.val (.int (255 : Int32)), .val (.int (23 : Int32))] [])
  refine Go.step (fun _ k => XS.iinc X0.here hx rfl (hb hby d11_54) rfl (l' := #[.val (.int (255 : Int32)), .val (.int (19 : Int32))]) rfl k) ?_
  show Go _ _ _ _ _ _ _ s₁ (mkF m 57 #[.val (.int (255 : Int32)), .val (.int (19 : Int32))] [])
  refine Go.step (fun _ k => XS.iloadN X0.here hx rfl (hb hby d11_57) rfl k) ?_
  show Go _ _ _ _ _ _ _ s₁ (mkF m 58 #[.val (.int (255 : Int32)), .val (.int (19 : Int32))] [(.int (255 : Int32))])
  refine Go.step (fun _ k => XS.iconst X0.here hx rfl (hb hby d11_58) k) ?_
  show Go _ _ _ _ _ _ _ s₁ (mkF m 59 #[.val (.int (255 : Int32)), .val (.int (19 : Int32))] [(.int (4 : Int32)), (.int (255 : Int32))])
  refine Go.step (fun _ k => XS.iushr X0.here hx rfl (hb hby d11_59) rfl k) ?_
  show Go _ _ _ _ _ _ _ s₁ (mkF m 60 #[.val (.int (255 : Int32)), .val (.int (19 : Int32))] [(.int (15 : Int32))])
  refine Go.step (fun _ k => XS.istoreN X0.here hx rfl (hb hby d11_60) rfl (l' := #[.val (.int (15 : Int32)), .val (.int (19 : Int32))]) rfl k) ?_
  show Go _ _ _ _ _ _ _ s₁ (mkF m 61 #[.val (.int (15 : Int32)), .val (.int (19 : Int32))] [])
  refine Go.step (fun _ k => XS.iloadN X0.here hx rfl (hb hby d11_61) rfl k) ?_
  show Go _ _ _ _ _ _ _ s₁ (mkF m 62 #[.val (.int (15 : Int32)), .val (.int (19 : Int32))] [(.int (15 : Int32))])
  refine Go.step (fun _ k => XS.iconst X0.here hx rfl (hb hby d11_62) k) ?_
  show Go _ _ _ _ _ _ _ s₁ (mkF m 63 #[.val (.int (15 : Int32)), .val (.int (19 : Int32))] [(.int (4 : Int32)), (.int (15 : Int32))])
  have hc63_14 : ¬ ((15 : Int32) < (4 : Int32)) := (by decide)
  refine Go.step (fun _ k => XS.icmpNo X0.here hx rfl (hb hby d11_63) rfl (flt hc63_14).1 k) ?_
  show Go _ _ _ _ _ _ _ s₁ (mkF m 66 #[.val (.int (15 : Int32)), .val (.int (19 : Int32))] [])
  refine Go.step (fun _ k => XS.iinc X0.here hx rfl (hb hby d11_66) rfl (l' := #[.val (.int (15 : Int32)), .val (.int (17 : Int32))]) rfl k) ?_
  show Go _ _ _ _ _ _ _ s₁ (mkF m 69 #[.val (.int (15 : Int32)), .val (.int (17 : Int32))] [])
  refine Go.step (fun _ k => XS.iloadN X0.here hx rfl (hb hby d11_69) rfl k) ?_
  show Go _ _ _ _ _ _ _ s₁ (mkF m 70 #[.val (.int (15 : Int32)), .val (.int (17 : Int32))] [(.int (15 : Int32))])
  refine Go.step (fun _ k => XS.iconst X0.here hx rfl (hb hby d11_70) k) ?_
  show Go _ _ _ _ _ _ _ s₁ (mkF m 71 #[.val (.int (15 : Int32)), .val (.int (17 : Int32))] [(.int (2 : Int32)), (.int (15 : Int32))])
  refine Go.step (fun _ k => XS.iushr X0.here hx rfl (hb hby d11_71) rfl k) ?_
  show Go _ _ _ _ _ _ _ s₁ (mkF m 72 #[.val (.int (15 : Int32)), .val (.int (17 : Int32))] [(.int (3 : Int32))])
  refine Go.step (fun _ k => XS.istoreN X0.here hx rfl (hb hby d11_72) rfl (l' := #[.val (.int (3 : Int32)), .val (.int (17 : Int32))]) rfl k) ?_
  show Go _ _ _ _ _ _ _ s₁ (mkF m 73 #[.val (.int (3 : Int32)), .val (.int (17 : Int32))] [])
  refine Go.step (fun _ k => XS.iloadN X0.here hx rfl (hb hby d11_73) rfl k) ?_
  show Go _ _ _ _ _ _ _ s₁ (mkF m 74 #[.val (.int (3 : Int32)), .val (.int (17 : Int32))] [(.int (17 : Int32))])
  refine Go.step (fun _ k => XS.iloadN X0.here hx rfl (hb hby d11_74) rfl k) ?_
  show Go _ _ _ _ _ _ _ s₁ (mkF m 75 #[.val (.int (3 : Int32)), .val (.int (17 : Int32))] [(.int (3 : Int32)), (.int (17 : Int32))])
  refine Go.step (fun _ k => XS.iconst X0.here hx rfl (hb hby d11_75) k) ?_
  show Go _ _ _ _ _ _ _ s₁ (mkF m 76 #[.val (.int (3 : Int32)), .val (.int (17 : Int32))] [(.int (1 : Int32)), (.int (3 : Int32)), (.int (17 : Int32))])
  refine Go.step (fun _ k => XS.iushr X0.here hx rfl (hb hby d11_76) rfl k) ?_
  show Go _ _ _ _ _ _ _ s₁ (mkF m 77 #[.val (.int (3 : Int32)), .val (.int (17 : Int32))] [(.int (1 : Int32)), (.int (17 : Int32))])
  refine Go.step (fun _ k => XS.isub X0.here hx rfl (hb hby d11_77) rfl k) ?_
  show Go _ _ _ _ _ _ _ s₁ (mkF m 78 #[.val (.int (3 : Int32)), .val (.int (17 : Int32))] [(.int (16 : Int32))])
  exact Go.retI X0 hx hret hlk (hb hby d11_78) e0 (by decide) (by decide) ⟨rfl, N0, rfl⟩
theorem d10_0 : decode jdk_35_method_48_code 0 = .ok (.lload_n 0, 1) := by decide +kernel
theorem d10_1 : decode jdk_35_method_48_code 1 = .ok (.bipush 32, 2) := by decide +kernel
theorem d10_3 : decode jdk_35_method_48_code 3 = .ok (.lushr, 1) := by decide +kernel
theorem d10_4 : decode jdk_35_method_48_code 4 = .ok (.l2i, 1) := by decide +kernel
theorem d10_5 : decode jdk_35_method_48_code 5 = .ok (.istore_n 2, 1) := by decide +kernel
theorem d10_6 : decode jdk_35_method_48_code 6 = .ok (.iload_n 2, 1) := by decide +kernel
theorem d10_7 : decode jdk_35_method_48_code 7 = .ok (.ifCond .ne 14, 3) := by decide +kernel
theorem d10_10 : decode jdk_35_method_48_code 10 = .ok (.bipush 32, 2) := by decide +kernel
theorem d10_12 : decode jdk_35_method_48_code 12 = .ok (.lload_n 0, 1) := by decide +kernel
theorem d10_13 : decode jdk_35_method_48_code 13 = .ok (.l2i, 1) := by decide +kernel
theorem d10_14 : decode jdk_35_method_48_code 14 = .ok (.invokestatic 308, 3) := by decide +kernel
theorem d10_17 : decode jdk_35_method_48_code 17 = .ok (.iadd, 1) := by decide +kernel
theorem d10_18 : decode jdk_35_method_48_code 18 = .ok (.goto 7, 3) := by decide +kernel
theorem d10_21 : decode jdk_35_method_48_code 21 = .ok (.iload_n 2, 1) := by decide +kernel
theorem d10_22 : decode jdk_35_method_48_code 22 = .ok (.invokestatic 308, 3) := by decide +kernel
theorem d10_25 : decode jdk_35_method_48_code 25 = .ok (.ireturn, 1) := by decide +kernel
theorem pd__I_I : parseMethodDescriptor "(I)I" = some ⟨[.int], some .int⟩ := by decide +kernel
theorem pn_java_lang_Long : plainName "java/lang/Long" = true := by first | (simp [plainName, overriddenIn]; done) | decide +kernel
theorem ef_rmNJ0 (m : MethodId)  : entryFrame m #[(.long (0 : Int64))] 3 = mkF m 0 #[.val (.long (0 : Int64)), .second, .unset] [] := by first | (simp [entryFrame, mkF, argsToLocals, Value.category]; done) | rfl
def Q_rmNJ0 (Z : State)  (h0 : Heap) (n0 : Nat) (v : Option Value) (h : Heap) (L : List Loc) : Prop := (v = some (.int (64 : Int32))) ∧ (Fr n0 L) ∧ (h = h0)
set_option maxRecDepth 65536 in
set_option maxHeartbeats 40000000 in
theorem rmNJ0 (l : Launch) (Z : State) (a0 : Array Value) (hw : ∀ d ∈ tables_1, d.before a0 Z = true) (ws : List Jvm.Cond)  (h0 : Heap) (n0 : Nat) (Z0 : n0 ≤ h0.size) :
    MetFree l (⟨"java/lang/Long", "numberOfLeadingZeros", "(J)I"⟩ : MethodName) (head1 (Jvm.Cond.code (⟨"java/lang/Long", "numberOfLeadingZeros", "(J)I"⟩ : MethodName) jdk_35_method_48_code 3 (some .int) :: ws) ({ frames := 1, cells := 0, slots := 0, locals := 14 } : Room)) (fun aA U => aA = #[(.long (0 : Int64))] ∧ Z.Warmed39 U.vm ∧ U.heap = h0) (fun _ _ _ _ _ => True) (fun _ U o U' => ∃ v L, o = .returned v ∧ Q_rmNJ0 Z  h0 n0 v U'.heap L ∧ FrameEnd U o U' L ({ frames := 1, cells := 0, slots := 0, locals := 14 } : Room).cells ({ frames := 1, cells := 0, slots := 0, locals := 14 } : Room).slots) := by
  refine MetFree.of_bodySF (plainFor_of_name pn_java_lang_Long) hisR ?_
  intro p e s m args below meth c s₁ Bd hml0 hP hK
  obtain ⟨rfl, hZ, hh⟩ := hP
  have hx := Bd.exec
  have hby := Bd.bytes
  have hml : c.maxLocals = 3 := hml0
  have hown : s.vm.findClass "java/lang/Long" = some m.cls := findClass_of_methodNamed Bd.named
  have hnm := (name_of_methodNamed Bd.named Bd.method).1
  have hret := Bd.returns
  have hlk : meth.locks = false := BodyLoose.notSynchronized Bd
  have X0 : Stand p l e ({ frames := 1, cells := 0, slots := 0, locals := 14 } : Room) s m #[(.long (0 : Int64))] below meth c s₁ [] 0 0 := Stand.of_body Bd
  have e0 : s₁.heap = h0 := by rw [← hh, Bd.state]; rfl
  have N0 := Fr.nil n0
  suffices hgo : Go p e below s ({ frames := 1, cells := 0, slots := 0, locals := 14 } : Room).cells ({ frames := 1, cells := 0, slots := 0, locals := 14 } : Room).slots (Q_rmNJ0 Z  h0 n0) s₁ (mkF m 0 #[.val (.long (0 : Int64)), .second, .unset] []) from hgo.enter (ef_rmNJ0 m )
  refine Go.step (fun _ k => XS.lloadN X0.here hx rfl (hb hby d10_0) rfl k) ?_
  show Go _ _ _ _ _ _ _ s₁ (mkF m 1 #[.val (.long (0 : Int64)), .second, .unset] [(.long (0 : Int64))])
  refine Go.step (fun _ k => XS.bipush X0.here hx rfl (hb hby d10_1) k) ?_
  show Go _ _ _ _ _ _ _ s₁ (mkF m 3 #[.val (.long (0 : Int64)), .second, .unset] [(.int (32 : Int32)), (.long (0 : Int64))])
  refine Go.step (fun _ k => XS.lushr X0.here hx rfl (hb hby d10_3) rfl k) ?_
  show Go _ _ _ _ _ _ _ s₁ (mkF m 4 #[.val (.long (0 : Int64)), .second, .unset] [(.long (0 : Int64))])
  refine Go.step (fun _ k => XS.l2i X0.here hx rfl (hb hby d10_4) rfl k) ?_
  show Go _ _ _ _ _ _ _ s₁ (mkF m 5 #[.val (.long (0 : Int64)), .second, .unset] [(.int (0 : Int32))])
  refine Go.step (fun _ k => XS.istoreN X0.here hx rfl (hb hby d10_5) rfl (l' := #[.val (.long (0 : Int64)), .second, .val (.int (0 : Int32))]) rfl k) ?_
  show Go _ _ _ _ _ _ _ s₁ (mkF m 6 #[.val (.long (0 : Int64)), .second, .val (.int (0 : Int32))] [])
  refine Go.step (fun _ k => XS.iloadN X0.here hx rfl (hb hby d10_6) rfl k) ?_
  show Go _ _ _ _ _ _ _ s₁ (mkF m 7 #[.val (.long (0 : Int64)), .second, .val (.int (0 : Int32))] [(.int (0 : Int32))])
  have hc7_15 : (0 : Int32) = (0 : Int32) := (by decide)
  refine Go.step (fun _ k => XS.ifNo X0.here hx rfl (hb hby d10_7) rfl ((if0 _ _).trans (teq hc7_15).2) k) ?_
  show Go _ _ _ _ _ _ _ s₁ (mkF m 10 #[.val (.long (0 : Int64)), .second, .val (.int (0 : Int32))] [])
  refine Go.step (fun _ k => XS.bipush X0.here hx rfl (hb hby d10_10) k) ?_
  show Go _ _ _ _ _ _ _ s₁ (mkF m 12 #[.val (.long (0 : Int64)), .second, .val (.int (0 : Int32))] [(.int (32 : Int32))])
  refine Go.step (fun _ k => XS.lloadN X0.here hx rfl (hb hby d10_12) rfl k) ?_
  show Go _ _ _ _ _ _ _ s₁ (mkF m 13 #[.val (.long (0 : Int64)), .second, .val (.int (0 : Int32))] [(.long (0 : Int64)), (.int (32 : Int32))])
  refine Go.step (fun _ k => XS.l2i X0.here hx rfl (hb hby d10_13) rfl k) ?_
  show Go _ _ _ _ _ _ _ s₁ (mkF m 14 #[.val (.long (0 : Int64)), .second, .val (.int (0 : Int32))] [(.int (0 : Int32)), (.int (32 : Int32))])
  obtain ⟨_, _, ⟨T16, L16, k16, n16⟩, -, X16, ⟨Lc16, hQ16, l16, y16, z16⟩, st16⟩ := Jvm.LawKit.callS X0 hx (y := (⟨"java/lang/Integer", "numberOfLeadingZeros", "(I)I"⟩ : MethodName)) hown (mvT hZ (hw _ (List.mem_of_getElem? (i := 52) rfl))) (mvT hZ (hw _ (List.mem_of_getElem? (i := 53) rfl))) (mvT hZ (hw _ (List.mem_of_getElem? (i := 54) rfl))) (mvT hZ (hw _ (List.mem_of_getElem? (i := 55) rfl))) (by decide) (backOf (W := 1) (rmNI0 l Z a0 hw []  h0 n0 Z0 ) hZ (hw _ (List.mem_of_getElem? (i := 55) rfl)) (hw _ (List.mem_of_getElem? (i := 54) rfl)) (by decide) (by decide)) (g := (mkF m 14 #[.val (.long (0 : Int64)), .second, .val (.int (0 : Int32))] [(.int (0 : Int32)), (.int (32 : Int32))])) rfl (by rw [hml]; rfl) (argsL := [(.int (0 : Int32))]) (rest := [(.int (32 : Int32))]) (lenOf pd__I_I rfl) rfl (by show 2 * 0 + _ ≤ _; exact Nat.le_of_eq rfl) (hb hby d10_14) (fun _ _ => ⟨rfl, e0, (by decide : 0 + 0 ≤ _), (by decide : 0 + 0 ≤ _)⟩)
  dsimp only [Pt.U, Pt.locs, Pt.cells, Pt.slots] at X16 l16 y16 z16 st16 hQ16
  subst l16 y16 z16
  obtain ⟨h16, e16⟩ : ∃ h, T16.heap = h := ⟨_, rfl⟩
  rw [e16] at hQ16
  obtain ⟨rfl, Nq16, hs16⟩ := hQ16
  have N16 := Fr.app N0 Nq16
  rw [hs16] at e16
  refine Go.step st16 ?_
  show Go _ _ _ _ _ _ _ T16 (mkF m 17 #[.val (.long (0 : Int64)), .second, .val (.int (0 : Int32))] [(.int (32 : Int32)), (.int (32 : Int32))])
  refine Go.step (fun _ k => XS.iadd X16.here hx rfl (hb hby d10_17) rfl k) ?_
  show Go _ _ _ _ _ _ _ T16 (mkF m 18 #[.val (.long (0 : Int64)), .second, .val (.int (0 : Int32))] [(.int (64 : Int32))])
  refine Go.step (fun _ k => XS.goto X16.here hx rfl (pc0 := 18) (pc' := 25) rfl (hb hby d10_18) (by decide) (by decide) k) ?_
  show Go _ _ _ _ _ _ _ T16 (mkF m 25 #[.val (.long (0 : Int64)), .second, .val (.int (0 : Int32))] [(.int (64 : Int32))])
  exact Go.retI X16 hx hret hlk (hb hby d10_25) e16 (by decide) (by decide) ⟨rfl, N16, rfl⟩
theorem d9_0 : decode prog_171_method_6_code 0 = .ok (.bipush 64, 2) := by decide +kernel
theorem d9_2 : decode prog_171_method_6_code 2 = .ok (.lload_n 0, 1) := by decide +kernel
theorem d9_3 : decode prog_171_method_6_code 3 = .ok (.invokestatic 67, 3) := by decide +kernel
theorem d9_6 : decode prog_171_method_6_code 6 = .ok (.isub, 1) := by decide +kernel
theorem d9_7 : decode prog_171_method_6_code 7 = .ok (.bipush 8, 2) := by decide +kernel
theorem d9_9 : decode prog_171_method_6_code 9 = .ok (.iadd, 1) := by decide +kernel
theorem d9_10 : decode prog_171_method_6_code 10 = .ok (.iconst 1, 1) := by decide +kernel
theorem d9_11 : decode prog_171_method_6_code 11 = .ok (.isub, 1) := by decide +kernel
theorem d9_12 : decode prog_171_method_6_code 12 = .ok (.bipush 8, 2) := by decide +kernel
theorem d9_14 : decode prog_171_method_6_code 14 = .ok (.idiv, 1) := by decide +kernel
theorem d9_15 : decode prog_171_method_6_code 15 = .ok (.ireturn, 1) := by decide +kernel
theorem pd__J_I : parseMethodDescriptor "(J)I" = some ⟨[.long], some .int⟩ := by decide +kernel
theorem pn_com_example_termvault_termvault_UnsignedTable : plainName "com/example/termvault/termvault/UnsignedTable" = true := by first | (simp [plainName, overriddenIn]; done) | decide +kernel
theorem ef_rmNU0 (m : MethodId)  : entryFrame m #[(.long (0 : Int64))] 2 = mkF m 0 #[.val (.long (0 : Int64)), .second] [] := by first | (simp [entryFrame, mkF, argsToLocals, Value.category]; done) | rfl
def Q_rmNU0 (Z : State)  (h0 : Heap) (n0 : Nat) (v : Option Value) (h : Heap) (L : List Loc) : Prop := (v = some (.int (0 : Int32))) ∧ (Fr n0 L) ∧ (h = h0)
set_option maxRecDepth 65536 in
set_option maxHeartbeats 40000000 in
theorem rmNU0 (l : Launch) (Z : State) (a0 : Array Value) (hw : ∀ d ∈ tables_1, d.before a0 Z = true) (ws : List Jvm.Cond)  (h0 : Heap) (n0 : Nat) (Z0 : n0 ≤ h0.size) :
    MetFree l (⟨"com/example/termvault/termvault/UnsignedTable", "width", "(J)I"⟩ : MethodName) (head1 (Jvm.Cond.code (⟨"com/example/termvault/termvault/UnsignedTable", "width", "(J)I"⟩ : MethodName) prog_171_method_6_code 2 (some .int) :: ws) ({ frames := 2, cells := 0, slots := 0, locals := 29 } : Room)) (fun aA U => aA = #[(.long (0 : Int64))] ∧ Z.Warmed39 U.vm ∧ U.heap = h0) (fun _ _ _ _ _ => True) (fun _ U o U' => ∃ v L, o = .returned v ∧ Q_rmNU0 Z  h0 n0 v U'.heap L ∧ FrameEnd U o U' L ({ frames := 2, cells := 0, slots := 0, locals := 29 } : Room).cells ({ frames := 2, cells := 0, slots := 0, locals := 29 } : Room).slots) := by
  refine MetFree.of_bodySF (plainFor_of_name pn_com_example_termvault_termvault_UnsignedTable) hisR ?_
  intro p e s m args below meth c s₁ Bd hml0 hP hK
  obtain ⟨rfl, hZ, hh⟩ := hP
  have hx := Bd.exec
  have hby := Bd.bytes
  have hml : c.maxLocals = 2 := hml0
  have hown : s.vm.findClass "com/example/termvault/termvault/UnsignedTable" = some m.cls := findClass_of_methodNamed Bd.named
  have hnm := (name_of_methodNamed Bd.named Bd.method).1
  have hret := Bd.returns
  have hlk : meth.locks = false := BodyLoose.notSynchronized Bd
  have X0 : Stand p l e ({ frames := 2, cells := 0, slots := 0, locals := 29 } : Room) s m #[(.long (0 : Int64))] below meth c s₁ [] 0 0 := Stand.of_body Bd
  have e0 : s₁.heap = h0 := by rw [← hh, Bd.state]; rfl
  have N0 := Fr.nil n0
  suffices hgo : Go p e below s ({ frames := 2, cells := 0, slots := 0, locals := 29 } : Room).cells ({ frames := 2, cells := 0, slots := 0, locals := 29 } : Room).slots (Q_rmNU0 Z  h0 n0) s₁ (mkF m 0 #[.val (.long (0 : Int64)), .second] []) from hgo.enter (ef_rmNU0 m )
  refine Go.step (fun _ k => XS.bipush X0.here hx rfl (hb hby d9_0) k) ?_
  show Go _ _ _ _ _ _ _ s₁ (mkF m 2 #[.val (.long (0 : Int64)), .second] [(.int (64 : Int32))])
  refine Go.step (fun _ k => XS.lloadN X0.here hx rfl (hb hby d9_2) rfl k) ?_
  show Go _ _ _ _ _ _ _ s₁ (mkF m 3 #[.val (.long (0 : Int64)), .second] [(.long (0 : Int64)), (.int (64 : Int32))])
  obtain ⟨_, _, ⟨T17, L17, k17, n17⟩, -, X17, ⟨Lc17, hQ17, l17, y17, z17⟩, st17⟩ := Jvm.LawKit.callS X0 hx (y := (⟨"java/lang/Long", "numberOfLeadingZeros", "(J)I"⟩ : MethodName)) hown (mvT hZ (hw _ (List.mem_of_getElem? (i := 48) rfl))) (mvT hZ (hw _ (List.mem_of_getElem? (i := 49) rfl))) (mvT hZ (hw _ (List.mem_of_getElem? (i := 50) rfl))) (mvT hZ (hw _ (List.mem_of_getElem? (i := 51) rfl))) (by decide) (backOf (W := 1) (rmNJ0 l Z a0 hw []  h0 n0 Z0 ) hZ (hw _ (List.mem_of_getElem? (i := 51) rfl)) (hw _ (List.mem_of_getElem? (i := 50) rfl)) (by decide) (by decide)) (g := (mkF m 3 #[.val (.long (0 : Int64)), .second] [(.long (0 : Int64)), (.int (64 : Int32))])) rfl (by rw [hml]; rfl) (argsL := [(.long (0 : Int64))]) (rest := [(.int (64 : Int32))]) (lenOf pd__J_I rfl) rfl (by show 2 * 0 + _ ≤ _; exact Nat.le_of_eq rfl) (hb hby d9_3) (fun _ _ => ⟨rfl, e0, (by decide : 0 + 0 ≤ _), (by decide : 0 + 0 ≤ _)⟩)
  dsimp only [Pt.U, Pt.locs, Pt.cells, Pt.slots] at X17 l17 y17 z17 st17 hQ17
  subst l17 y17 z17
  obtain ⟨h17, e17⟩ : ∃ h, T17.heap = h := ⟨_, rfl⟩
  rw [e17] at hQ17
  obtain ⟨rfl, Nq17, hs17⟩ := hQ17
  have N17 := Fr.app N0 Nq17
  rw [hs17] at e17
  refine Go.step st17 ?_
  show Go _ _ _ _ _ _ _ T17 (mkF m 6 #[.val (.long (0 : Int64)), .second] [(.int (64 : Int32)), (.int (64 : Int32))])
  refine Go.step (fun _ k => XS.isub X17.here hx rfl (hb hby d9_6) rfl k) ?_
  show Go _ _ _ _ _ _ _ T17 (mkF m 7 #[.val (.long (0 : Int64)), .second] [(.int (0 : Int32))])
  refine Go.step (fun _ k => XS.bipush X17.here hx rfl (hb hby d9_7) k) ?_
  show Go _ _ _ _ _ _ _ T17 (mkF m 9 #[.val (.long (0 : Int64)), .second] [(.int (8 : Int32)), (.int (0 : Int32))])
  refine Go.step (fun _ k => XS.iadd X17.here hx rfl (hb hby d9_9) rfl k) ?_
  show Go _ _ _ _ _ _ _ T17 (mkF m 10 #[.val (.long (0 : Int64)), .second] [(.int (8 : Int32))])
  refine Go.step (fun _ k => XS.iconst X17.here hx rfl (hb hby d9_10) k) ?_
  show Go _ _ _ _ _ _ _ T17 (mkF m 11 #[.val (.long (0 : Int64)), .second] [(.int (1 : Int32)), (.int (8 : Int32))])
  refine Go.step (fun _ k => XS.isub X17.here hx rfl (hb hby d9_11) rfl k) ?_
  show Go _ _ _ _ _ _ _ T17 (mkF m 12 #[.val (.long (0 : Int64)), .second] [(.int (7 : Int32))])
  refine Go.step (fun _ k => XS.bipush X17.here hx rfl (hb hby d9_12) k) ?_
  show Go _ _ _ _ _ _ _ T17 (mkF m 14 #[.val (.long (0 : Int64)), .second] [(.int (8 : Int32)), (.int (7 : Int32))])
  refine Go.step (fun _ k => XS.idiv X17.here hx rfl (hb hby d9_14) rfl (by decide) k) ?_
  show Go _ _ _ _ _ _ _ T17 (mkF m 15 #[.val (.long (0 : Int64)), .second] [(.int (0 : Int32))])
  exact Go.retI X17 hx hret hlk (hb hby d9_15) e17 (by decide) (by decide) ⟨rfl, N17, rfl⟩
theorem ef_rmNJ1099511627775 (m : MethodId)  : entryFrame m #[(.long (1099511627775 : Int64))] 3 = mkF m 0 #[.val (.long (1099511627775 : Int64)), .second, .unset] [] := by first | (simp [entryFrame, mkF, argsToLocals, Value.category]; done) | rfl
def Q_rmNJ1099511627775 (Z : State)  (h0 : Heap) (n0 : Nat) (v : Option Value) (h : Heap) (L : List Loc) : Prop := (v = some (.int (24 : Int32))) ∧ (Fr n0 L) ∧ (h = h0)
set_option maxRecDepth 65536 in
set_option maxHeartbeats 40000000 in
theorem rmNJ1099511627775 (l : Launch) (Z : State) (a0 : Array Value) (hw : ∀ d ∈ tables_1, d.before a0 Z = true) (ws : List Jvm.Cond)  (h0 : Heap) (n0 : Nat) (Z0 : n0 ≤ h0.size) :
    MetFree l (⟨"java/lang/Long", "numberOfLeadingZeros", "(J)I"⟩ : MethodName) (head1 (Jvm.Cond.code (⟨"java/lang/Long", "numberOfLeadingZeros", "(J)I"⟩ : MethodName) jdk_35_method_48_code 3 (some .int) :: ws) ({ frames := 1, cells := 0, slots := 0, locals := 13 } : Room)) (fun aA U => aA = #[(.long (1099511627775 : Int64))] ∧ Z.Warmed39 U.vm ∧ U.heap = h0) (fun _ _ _ _ _ => True) (fun _ U o U' => ∃ v L, o = .returned v ∧ Q_rmNJ1099511627775 Z  h0 n0 v U'.heap L ∧ FrameEnd U o U' L ({ frames := 1, cells := 0, slots := 0, locals := 13 } : Room).cells ({ frames := 1, cells := 0, slots := 0, locals := 13 } : Room).slots) := by
  refine MetFree.of_bodySF (plainFor_of_name pn_java_lang_Long) hisR ?_
  intro p e s m args below meth c s₁ Bd hml0 hP hK
  obtain ⟨rfl, hZ, hh⟩ := hP
  have hx := Bd.exec
  have hby := Bd.bytes
  have hml : c.maxLocals = 3 := hml0
  have hown : s.vm.findClass "java/lang/Long" = some m.cls := findClass_of_methodNamed Bd.named
  have hnm := (name_of_methodNamed Bd.named Bd.method).1
  have hret := Bd.returns
  have hlk : meth.locks = false := BodyLoose.notSynchronized Bd
  have X0 : Stand p l e ({ frames := 1, cells := 0, slots := 0, locals := 13 } : Room) s m #[(.long (1099511627775 : Int64))] below meth c s₁ [] 0 0 := Stand.of_body Bd
  have e0 : s₁.heap = h0 := by rw [← hh, Bd.state]; rfl
  have N0 := Fr.nil n0
  suffices hgo : Go p e below s ({ frames := 1, cells := 0, slots := 0, locals := 13 } : Room).cells ({ frames := 1, cells := 0, slots := 0, locals := 13 } : Room).slots (Q_rmNJ1099511627775 Z  h0 n0) s₁ (mkF m 0 #[.val (.long (1099511627775 : Int64)), .second, .unset] []) from hgo.enter (ef_rmNJ1099511627775 m )
  refine Go.step (fun _ k => XS.lloadN X0.here hx rfl (hb hby d10_0) rfl k) ?_
  show Go _ _ _ _ _ _ _ s₁ (mkF m 1 #[.val (.long (1099511627775 : Int64)), .second, .unset] [(.long (1099511627775 : Int64))])
  refine Go.step (fun _ k => XS.bipush X0.here hx rfl (hb hby d10_1) k) ?_
  show Go _ _ _ _ _ _ _ s₁ (mkF m 3 #[.val (.long (1099511627775 : Int64)), .second, .unset] [(.int (32 : Int32)), (.long (1099511627775 : Int64))])
  refine Go.step (fun _ k => XS.lushr X0.here hx rfl (hb hby d10_3) rfl k) ?_
  show Go _ _ _ _ _ _ _ s₁ (mkF m 4 #[.val (.long (1099511627775 : Int64)), .second, .unset] [(.long (255 : Int64))])
  refine Go.step (fun _ k => XS.l2i X0.here hx rfl (hb hby d10_4) rfl k) ?_
  show Go _ _ _ _ _ _ _ s₁ (mkF m 5 #[.val (.long (1099511627775 : Int64)), .second, .unset] [(.int (255 : Int32))])
  refine Go.step (fun _ k => XS.istoreN X0.here hx rfl (hb hby d10_5) rfl (l' := #[.val (.long (1099511627775 : Int64)), .second, .val (.int (255 : Int32))]) rfl k) ?_
  show Go _ _ _ _ _ _ _ s₁ (mkF m 6 #[.val (.long (1099511627775 : Int64)), .second, .val (.int (255 : Int32))] [])
  refine Go.step (fun _ k => XS.iloadN X0.here hx rfl (hb hby d10_6) rfl k) ?_
  show Go _ _ _ _ _ _ _ s₁ (mkF m 7 #[.val (.long (1099511627775 : Int64)), .second, .val (.int (255 : Int32))] [(.int (255 : Int32))])
  have hc7_18 : ¬ ((255 : Int32) = (0 : Int32)) := (by decide)
  refine Go.step (fun _ k => XS.ifYes X0.here hx rfl (pc0 := 7) (pc' := 21) rfl (hb hby d10_7) rfl ((if0 _ _).trans (feq hc7_18).2) (by decide) (by decide) k) ?_
  show Go _ _ _ _ _ _ _ s₁ (mkF m 21 #[.val (.long (1099511627775 : Int64)), .second, .val (.int (255 : Int32))] [])
  refine Go.step (fun _ k => XS.iloadN X0.here hx rfl (hb hby d10_21) rfl k) ?_
  show Go _ _ _ _ _ _ _ s₁ (mkF m 22 #[.val (.long (1099511627775 : Int64)), .second, .val (.int (255 : Int32))] [(.int (255 : Int32))])
  obtain ⟨_, _, ⟨T19, L19, k19, n19⟩, -, X19, ⟨Lc19, hQ19, l19, y19, z19⟩, st19⟩ := Jvm.LawKit.callS X0 hx (y := (⟨"java/lang/Integer", "numberOfLeadingZeros", "(I)I"⟩ : MethodName)) hown (mvT hZ (hw _ (List.mem_of_getElem? (i := 52) rfl))) (mvT hZ (hw _ (List.mem_of_getElem? (i := 53) rfl))) (mvT hZ (hw _ (List.mem_of_getElem? (i := 54) rfl))) (mvT hZ (hw _ (List.mem_of_getElem? (i := 55) rfl))) (by decide) (backOf (W := 0) (rmNI255 l Z a0 hw []  h0 n0 Z0 ) hZ (hw _ (List.mem_of_getElem? (i := 55) rfl)) (hw _ (List.mem_of_getElem? (i := 54) rfl)) (by decide) (by decide)) (g := (mkF m 22 #[.val (.long (1099511627775 : Int64)), .second, .val (.int (255 : Int32))] [(.int (255 : Int32))])) rfl (by rw [hml]; rfl) (argsL := [(.int (255 : Int32))]) (rest := []) (lenOf pd__I_I rfl) rfl (by show 2 * 0 + _ ≤ _; exact Nat.le_of_eq rfl) (hb hby d10_22) (fun _ _ => ⟨rfl, e0, (by decide : 0 + 0 ≤ _), (by decide : 0 + 0 ≤ _)⟩)
  dsimp only [Pt.U, Pt.locs, Pt.cells, Pt.slots] at X19 l19 y19 z19 st19 hQ19
  subst l19 y19 z19
  obtain ⟨h19, e19⟩ : ∃ h, T19.heap = h := ⟨_, rfl⟩
  rw [e19] at hQ19
  obtain ⟨rfl, Nq19, hs19⟩ := hQ19
  have N19 := Fr.app N0 Nq19
  rw [hs19] at e19
  refine Go.step st19 ?_
  show Go _ _ _ _ _ _ _ T19 (mkF m 25 #[.val (.long (1099511627775 : Int64)), .second, .val (.int (255 : Int32))] [(.int (24 : Int32))])
  exact Go.retI X19 hx hret hlk (hb hby d10_25) e19 (by decide) (by decide) ⟨rfl, N19, rfl⟩
theorem ef_rmNU1099511627775 (m : MethodId)  : entryFrame m #[(.long (1099511627775 : Int64))] 2 = mkF m 0 #[.val (.long (1099511627775 : Int64)), .second] [] := by first | (simp [entryFrame, mkF, argsToLocals, Value.category]; done) | rfl
def Q_rmNU1099511627775 (Z : State)  (h0 : Heap) (n0 : Nat) (v : Option Value) (h : Heap) (L : List Loc) : Prop := (v = some (.int (5 : Int32))) ∧ (Fr n0 L) ∧ (h = h0)
set_option maxRecDepth 65536 in
set_option maxHeartbeats 40000000 in
theorem rmNU1099511627775 (l : Launch) (Z : State) (a0 : Array Value) (hw : ∀ d ∈ tables_1, d.before a0 Z = true) (ws : List Jvm.Cond)  (h0 : Heap) (n0 : Nat) (Z0 : n0 ≤ h0.size) :
    MetFree l (⟨"com/example/termvault/termvault/UnsignedTable", "width", "(J)I"⟩ : MethodName) (head1 (Jvm.Cond.code (⟨"com/example/termvault/termvault/UnsignedTable", "width", "(J)I"⟩ : MethodName) prog_171_method_6_code 2 (some .int) :: ws) ({ frames := 2, cells := 0, slots := 0, locals := 28 } : Room)) (fun aA U => aA = #[(.long (1099511627775 : Int64))] ∧ Z.Warmed39 U.vm ∧ U.heap = h0) (fun _ _ _ _ _ => True) (fun _ U o U' => ∃ v L, o = .returned v ∧ Q_rmNU1099511627775 Z  h0 n0 v U'.heap L ∧ FrameEnd U o U' L ({ frames := 2, cells := 0, slots := 0, locals := 28 } : Room).cells ({ frames := 2, cells := 0, slots := 0, locals := 28 } : Room).slots) := by
  refine MetFree.of_bodySF (plainFor_of_name pn_com_example_termvault_termvault_UnsignedTable) hisR ?_
  intro p e s m args below meth c s₁ Bd hml0 hP hK
  obtain ⟨rfl, hZ, hh⟩ := hP
  have hx := Bd.exec
  have hby := Bd.bytes
  have hml : c.maxLocals = 2 := hml0
  have hown : s.vm.findClass "com/example/termvault/termvault/UnsignedTable" = some m.cls := findClass_of_methodNamed Bd.named
  have hnm := (name_of_methodNamed Bd.named Bd.method).1
  have hret := Bd.returns
  have hlk : meth.locks = false := BodyLoose.notSynchronized Bd
  have X0 : Stand p l e ({ frames := 2, cells := 0, slots := 0, locals := 28 } : Room) s m #[(.long (1099511627775 : Int64))] below meth c s₁ [] 0 0 := Stand.of_body Bd
  have e0 : s₁.heap = h0 := by rw [← hh, Bd.state]; rfl
  have N0 := Fr.nil n0
  suffices hgo : Go p e below s ({ frames := 2, cells := 0, slots := 0, locals := 28 } : Room).cells ({ frames := 2, cells := 0, slots := 0, locals := 28 } : Room).slots (Q_rmNU1099511627775 Z  h0 n0) s₁ (mkF m 0 #[.val (.long (1099511627775 : Int64)), .second] []) from hgo.enter (ef_rmNU1099511627775 m )
  refine Go.step (fun _ k => XS.bipush X0.here hx rfl (hb hby d9_0) k) ?_
  show Go _ _ _ _ _ _ _ s₁ (mkF m 2 #[.val (.long (1099511627775 : Int64)), .second] [(.int (64 : Int32))])
  refine Go.step (fun _ k => XS.lloadN X0.here hx rfl (hb hby d9_2) rfl k) ?_
  show Go _ _ _ _ _ _ _ s₁ (mkF m 3 #[.val (.long (1099511627775 : Int64)), .second] [(.long (1099511627775 : Int64)), (.int (64 : Int32))])
  obtain ⟨_, _, ⟨T20, L20, k20, n20⟩, -, X20, ⟨Lc20, hQ20, l20, y20, z20⟩, st20⟩ := Jvm.LawKit.callS X0 hx (y := (⟨"java/lang/Long", "numberOfLeadingZeros", "(J)I"⟩ : MethodName)) hown (mvT hZ (hw _ (List.mem_of_getElem? (i := 48) rfl))) (mvT hZ (hw _ (List.mem_of_getElem? (i := 49) rfl))) (mvT hZ (hw _ (List.mem_of_getElem? (i := 50) rfl))) (mvT hZ (hw _ (List.mem_of_getElem? (i := 51) rfl))) (by decide) (backOf (W := 1) (rmNJ1099511627775 l Z a0 hw []  h0 n0 Z0 ) hZ (hw _ (List.mem_of_getElem? (i := 51) rfl)) (hw _ (List.mem_of_getElem? (i := 50) rfl)) (by decide) (by decide)) (g := (mkF m 3 #[.val (.long (1099511627775 : Int64)), .second] [(.long (1099511627775 : Int64)), (.int (64 : Int32))])) rfl (by rw [hml]; rfl) (argsL := [(.long (1099511627775 : Int64))]) (rest := [(.int (64 : Int32))]) (lenOf pd__J_I rfl) rfl (by show 2 * 0 + _ ≤ _; exact Nat.le_of_eq rfl) (hb hby d9_3) (fun _ _ => ⟨rfl, e0, (by decide : 0 + 0 ≤ _), (by decide : 0 + 0 ≤ _)⟩)
  dsimp only [Pt.U, Pt.locs, Pt.cells, Pt.slots] at X20 l20 y20 z20 st20 hQ20
  subst l20 y20 z20
  obtain ⟨h20, e20⟩ : ∃ h, T20.heap = h := ⟨_, rfl⟩
  rw [e20] at hQ20
  obtain ⟨rfl, Nq20, hs20⟩ := hQ20
  have N20 := Fr.app N0 Nq20
  rw [hs20] at e20
  refine Go.step st20 ?_
  show Go _ _ _ _ _ _ _ T20 (mkF m 6 #[.val (.long (1099511627775 : Int64)), .second] [(.int (24 : Int32)), (.int (64 : Int32))])
  refine Go.step (fun _ k => XS.isub X20.here hx rfl (hb hby d9_6) rfl k) ?_
  show Go _ _ _ _ _ _ _ T20 (mkF m 7 #[.val (.long (1099511627775 : Int64)), .second] [(.int (40 : Int32))])
  refine Go.step (fun _ k => XS.bipush X20.here hx rfl (hb hby d9_7) k) ?_
  show Go _ _ _ _ _ _ _ T20 (mkF m 9 #[.val (.long (1099511627775 : Int64)), .second] [(.int (8 : Int32)), (.int (40 : Int32))])
  refine Go.step (fun _ k => XS.iadd X20.here hx rfl (hb hby d9_9) rfl k) ?_
  show Go _ _ _ _ _ _ _ T20 (mkF m 10 #[.val (.long (1099511627775 : Int64)), .second] [(.int (48 : Int32))])
  refine Go.step (fun _ k => XS.iconst X20.here hx rfl (hb hby d9_10) k) ?_
  show Go _ _ _ _ _ _ _ T20 (mkF m 11 #[.val (.long (1099511627775 : Int64)), .second] [(.int (1 : Int32)), (.int (48 : Int32))])
  refine Go.step (fun _ k => XS.isub X20.here hx rfl (hb hby d9_11) rfl k) ?_
  show Go _ _ _ _ _ _ _ T20 (mkF m 12 #[.val (.long (1099511627775 : Int64)), .second] [(.int (47 : Int32))])
  refine Go.step (fun _ k => XS.bipush X20.here hx rfl (hb hby d9_12) k) ?_
  show Go _ _ _ _ _ _ _ T20 (mkF m 14 #[.val (.long (1099511627775 : Int64)), .second] [(.int (8 : Int32)), (.int (47 : Int32))])
  refine Go.step (fun _ k => XS.idiv X20.here hx rfl (hb hby d9_14) rfl (by decide) k) ?_
  show Go _ _ _ _ _ _ _ T20 (mkF m 15 #[.val (.long (1099511627775 : Int64)), .second] [(.int (5 : Int32))])
  exact Go.retI X20 hx hret hlk (hb hby d9_15) e20 (by decide) (by decide) ⟨rfl, N20, rfl⟩
theorem ef_rmNJ281474976710655 (m : MethodId)  : entryFrame m #[(.long (281474976710655 : Int64))] 3 = mkF m 0 #[.val (.long (281474976710655 : Int64)), .second, .unset] [] := by first | (simp [entryFrame, mkF, argsToLocals, Value.category]; done) | rfl
def Q_rmNJ281474976710655 (Z : State)  (h0 : Heap) (n0 : Nat) (v : Option Value) (h : Heap) (L : List Loc) : Prop := (v = some (.int (16 : Int32))) ∧ (Fr n0 L) ∧ (h = h0)
set_option maxRecDepth 65536 in
set_option maxHeartbeats 40000000 in
theorem rmNJ281474976710655 (l : Launch) (Z : State) (a0 : Array Value) (hw : ∀ d ∈ tables_1, d.before a0 Z = true) (ws : List Jvm.Cond)  (h0 : Heap) (n0 : Nat) (Z0 : n0 ≤ h0.size) :
    MetFree l (⟨"java/lang/Long", "numberOfLeadingZeros", "(J)I"⟩ : MethodName) (head1 (Jvm.Cond.code (⟨"java/lang/Long", "numberOfLeadingZeros", "(J)I"⟩ : MethodName) jdk_35_method_48_code 3 (some .int) :: ws) ({ frames := 1, cells := 0, slots := 0, locals := 13 } : Room)) (fun aA U => aA = #[(.long (281474976710655 : Int64))] ∧ Z.Warmed39 U.vm ∧ U.heap = h0) (fun _ _ _ _ _ => True) (fun _ U o U' => ∃ v L, o = .returned v ∧ Q_rmNJ281474976710655 Z  h0 n0 v U'.heap L ∧ FrameEnd U o U' L ({ frames := 1, cells := 0, slots := 0, locals := 13 } : Room).cells ({ frames := 1, cells := 0, slots := 0, locals := 13 } : Room).slots) := by
  refine MetFree.of_bodySF (plainFor_of_name pn_java_lang_Long) hisR ?_
  intro p e s m args below meth c s₁ Bd hml0 hP hK
  obtain ⟨rfl, hZ, hh⟩ := hP
  have hx := Bd.exec
  have hby := Bd.bytes
  have hml : c.maxLocals = 3 := hml0
  have hown : s.vm.findClass "java/lang/Long" = some m.cls := findClass_of_methodNamed Bd.named
  have hnm := (name_of_methodNamed Bd.named Bd.method).1
  have hret := Bd.returns
  have hlk : meth.locks = false := BodyLoose.notSynchronized Bd
  have X0 : Stand p l e ({ frames := 1, cells := 0, slots := 0, locals := 13 } : Room) s m #[(.long (281474976710655 : Int64))] below meth c s₁ [] 0 0 := Stand.of_body Bd
  have e0 : s₁.heap = h0 := by rw [← hh, Bd.state]; rfl
  have N0 := Fr.nil n0
  suffices hgo : Go p e below s ({ frames := 1, cells := 0, slots := 0, locals := 13 } : Room).cells ({ frames := 1, cells := 0, slots := 0, locals := 13 } : Room).slots (Q_rmNJ281474976710655 Z  h0 n0) s₁ (mkF m 0 #[.val (.long (281474976710655 : Int64)), .second, .unset] []) from hgo.enter (ef_rmNJ281474976710655 m )
  refine Go.step (fun _ k => XS.lloadN X0.here hx rfl (hb hby d10_0) rfl k) ?_
  show Go _ _ _ _ _ _ _ s₁ (mkF m 1 #[.val (.long (281474976710655 : Int64)), .second, .unset] [(.long (281474976710655 : Int64))])
  refine Go.step (fun _ k => XS.bipush X0.here hx rfl (hb hby d10_1) k) ?_
  show Go _ _ _ _ _ _ _ s₁ (mkF m 3 #[.val (.long (281474976710655 : Int64)), .second, .unset] [(.int (32 : Int32)), (.long (281474976710655 : Int64))])
  refine Go.step (fun _ k => XS.lushr X0.here hx rfl (hb hby d10_3) rfl k) ?_
  show Go _ _ _ _ _ _ _ s₁ (mkF m 4 #[.val (.long (281474976710655 : Int64)), .second, .unset] [(.long (65535 : Int64))])
  refine Go.step (fun _ k => XS.l2i X0.here hx rfl (hb hby d10_4) rfl k) ?_
  show Go _ _ _ _ _ _ _ s₁ (mkF m 5 #[.val (.long (281474976710655 : Int64)), .second, .unset] [(.int (65535 : Int32))])
  refine Go.step (fun _ k => XS.istoreN X0.here hx rfl (hb hby d10_5) rfl (l' := #[.val (.long (281474976710655 : Int64)), .second, .val (.int (65535 : Int32))]) rfl k) ?_
  show Go _ _ _ _ _ _ _ s₁ (mkF m 6 #[.val (.long (281474976710655 : Int64)), .second, .val (.int (65535 : Int32))] [])
  refine Go.step (fun _ k => XS.iloadN X0.here hx rfl (hb hby d10_6) rfl k) ?_
  show Go _ _ _ _ _ _ _ s₁ (mkF m 7 #[.val (.long (281474976710655 : Int64)), .second, .val (.int (65535 : Int32))] [(.int (65535 : Int32))])
  have hc7_21 : ¬ ((65535 : Int32) = (0 : Int32)) := (by decide)
  refine Go.step (fun _ k => XS.ifYes X0.here hx rfl (pc0 := 7) (pc' := 21) rfl (hb hby d10_7) rfl ((if0 _ _).trans (feq hc7_21).2) (by decide) (by decide) k) ?_
  show Go _ _ _ _ _ _ _ s₁ (mkF m 21 #[.val (.long (281474976710655 : Int64)), .second, .val (.int (65535 : Int32))] [])
  refine Go.step (fun _ k => XS.iloadN X0.here hx rfl (hb hby d10_21) rfl k) ?_
  show Go _ _ _ _ _ _ _ s₁ (mkF m 22 #[.val (.long (281474976710655 : Int64)), .second, .val (.int (65535 : Int32))] [(.int (65535 : Int32))])
  obtain ⟨_, _, ⟨T22, L22, k22, n22⟩, -, X22, ⟨Lc22, hQ22, l22, y22, z22⟩, st22⟩ := Jvm.LawKit.callS X0 hx (y := (⟨"java/lang/Integer", "numberOfLeadingZeros", "(I)I"⟩ : MethodName)) hown (mvT hZ (hw _ (List.mem_of_getElem? (i := 52) rfl))) (mvT hZ (hw _ (List.mem_of_getElem? (i := 53) rfl))) (mvT hZ (hw _ (List.mem_of_getElem? (i := 54) rfl))) (mvT hZ (hw _ (List.mem_of_getElem? (i := 55) rfl))) (by decide) (backOf (W := 0) (rmNI65535 l Z a0 hw []  h0 n0 Z0 ) hZ (hw _ (List.mem_of_getElem? (i := 55) rfl)) (hw _ (List.mem_of_getElem? (i := 54) rfl)) (by decide) (by decide)) (g := (mkF m 22 #[.val (.long (281474976710655 : Int64)), .second, .val (.int (65535 : Int32))] [(.int (65535 : Int32))])) rfl (by rw [hml]; rfl) (argsL := [(.int (65535 : Int32))]) (rest := []) (lenOf pd__I_I rfl) rfl (by show 2 * 0 + _ ≤ _; exact Nat.le_of_eq rfl) (hb hby d10_22) (fun _ _ => ⟨rfl, e0, (by decide : 0 + 0 ≤ _), (by decide : 0 + 0 ≤ _)⟩)
  dsimp only [Pt.U, Pt.locs, Pt.cells, Pt.slots] at X22 l22 y22 z22 st22 hQ22
  subst l22 y22 z22
  obtain ⟨h22, e22⟩ : ∃ h, T22.heap = h := ⟨_, rfl⟩
  rw [e22] at hQ22
  obtain ⟨rfl, Nq22, hs22⟩ := hQ22
  have N22 := Fr.app N0 Nq22
  rw [hs22] at e22
  refine Go.step st22 ?_
  show Go _ _ _ _ _ _ _ T22 (mkF m 25 #[.val (.long (281474976710655 : Int64)), .second, .val (.int (65535 : Int32))] [(.int (16 : Int32))])
  exact Go.retI X22 hx hret hlk (hb hby d10_25) e22 (by decide) (by decide) ⟨rfl, N22, rfl⟩
theorem ef_rmNU281474976710655 (m : MethodId)  : entryFrame m #[(.long (281474976710655 : Int64))] 2 = mkF m 0 #[.val (.long (281474976710655 : Int64)), .second] [] := by first | (simp [entryFrame, mkF, argsToLocals, Value.category]; done) | rfl
def Q_rmNU281474976710655 (Z : State)  (h0 : Heap) (n0 : Nat) (v : Option Value) (h : Heap) (L : List Loc) : Prop := (v = some (.int (6 : Int32))) ∧ (Fr n0 L) ∧ (h = h0)
set_option maxRecDepth 65536 in
set_option maxHeartbeats 40000000 in
theorem rmNU281474976710655 (l : Launch) (Z : State) (a0 : Array Value) (hw : ∀ d ∈ tables_1, d.before a0 Z = true) (ws : List Jvm.Cond)  (h0 : Heap) (n0 : Nat) (Z0 : n0 ≤ h0.size) :
    MetFree l (⟨"com/example/termvault/termvault/UnsignedTable", "width", "(J)I"⟩ : MethodName) (head1 (Jvm.Cond.code (⟨"com/example/termvault/termvault/UnsignedTable", "width", "(J)I"⟩ : MethodName) prog_171_method_6_code 2 (some .int) :: ws) ({ frames := 2, cells := 0, slots := 0, locals := 28 } : Room)) (fun aA U => aA = #[(.long (281474976710655 : Int64))] ∧ Z.Warmed39 U.vm ∧ U.heap = h0) (fun _ _ _ _ _ => True) (fun _ U o U' => ∃ v L, o = .returned v ∧ Q_rmNU281474976710655 Z  h0 n0 v U'.heap L ∧ FrameEnd U o U' L ({ frames := 2, cells := 0, slots := 0, locals := 28 } : Room).cells ({ frames := 2, cells := 0, slots := 0, locals := 28 } : Room).slots) := by
  refine MetFree.of_bodySF (plainFor_of_name pn_com_example_termvault_termvault_UnsignedTable) hisR ?_
  intro p e s m args below meth c s₁ Bd hml0 hP hK
  obtain ⟨rfl, hZ, hh⟩ := hP
  have hx := Bd.exec
  have hby := Bd.bytes
  have hml : c.maxLocals = 2 := hml0
  have hown : s.vm.findClass "com/example/termvault/termvault/UnsignedTable" = some m.cls := findClass_of_methodNamed Bd.named
  have hnm := (name_of_methodNamed Bd.named Bd.method).1
  have hret := Bd.returns
  have hlk : meth.locks = false := BodyLoose.notSynchronized Bd
  have X0 : Stand p l e ({ frames := 2, cells := 0, slots := 0, locals := 28 } : Room) s m #[(.long (281474976710655 : Int64))] below meth c s₁ [] 0 0 := Stand.of_body Bd
  have e0 : s₁.heap = h0 := by rw [← hh, Bd.state]; rfl
  have N0 := Fr.nil n0
  suffices hgo : Go p e below s ({ frames := 2, cells := 0, slots := 0, locals := 28 } : Room).cells ({ frames := 2, cells := 0, slots := 0, locals := 28 } : Room).slots (Q_rmNU281474976710655 Z  h0 n0) s₁ (mkF m 0 #[.val (.long (281474976710655 : Int64)), .second] []) from hgo.enter (ef_rmNU281474976710655 m )
  refine Go.step (fun _ k => XS.bipush X0.here hx rfl (hb hby d9_0) k) ?_
  show Go _ _ _ _ _ _ _ s₁ (mkF m 2 #[.val (.long (281474976710655 : Int64)), .second] [(.int (64 : Int32))])
  refine Go.step (fun _ k => XS.lloadN X0.here hx rfl (hb hby d9_2) rfl k) ?_
  show Go _ _ _ _ _ _ _ s₁ (mkF m 3 #[.val (.long (281474976710655 : Int64)), .second] [(.long (281474976710655 : Int64)), (.int (64 : Int32))])
  obtain ⟨_, _, ⟨T23, L23, k23, n23⟩, -, X23, ⟨Lc23, hQ23, l23, y23, z23⟩, st23⟩ := Jvm.LawKit.callS X0 hx (y := (⟨"java/lang/Long", "numberOfLeadingZeros", "(J)I"⟩ : MethodName)) hown (mvT hZ (hw _ (List.mem_of_getElem? (i := 48) rfl))) (mvT hZ (hw _ (List.mem_of_getElem? (i := 49) rfl))) (mvT hZ (hw _ (List.mem_of_getElem? (i := 50) rfl))) (mvT hZ (hw _ (List.mem_of_getElem? (i := 51) rfl))) (by decide) (backOf (W := 1) (rmNJ281474976710655 l Z a0 hw []  h0 n0 Z0 ) hZ (hw _ (List.mem_of_getElem? (i := 51) rfl)) (hw _ (List.mem_of_getElem? (i := 50) rfl)) (by decide) (by decide)) (g := (mkF m 3 #[.val (.long (281474976710655 : Int64)), .second] [(.long (281474976710655 : Int64)), (.int (64 : Int32))])) rfl (by rw [hml]; rfl) (argsL := [(.long (281474976710655 : Int64))]) (rest := [(.int (64 : Int32))]) (lenOf pd__J_I rfl) rfl (by show 2 * 0 + _ ≤ _; exact Nat.le_of_eq rfl) (hb hby d9_3) (fun _ _ => ⟨rfl, e0, (by decide : 0 + 0 ≤ _), (by decide : 0 + 0 ≤ _)⟩)
  dsimp only [Pt.U, Pt.locs, Pt.cells, Pt.slots] at X23 l23 y23 z23 st23 hQ23
  subst l23 y23 z23
  obtain ⟨h23, e23⟩ : ∃ h, T23.heap = h := ⟨_, rfl⟩
  rw [e23] at hQ23
  obtain ⟨rfl, Nq23, hs23⟩ := hQ23
  have N23 := Fr.app N0 Nq23
  rw [hs23] at e23
  refine Go.step st23 ?_
  show Go _ _ _ _ _ _ _ T23 (mkF m 6 #[.val (.long (281474976710655 : Int64)), .second] [(.int (16 : Int32)), (.int (64 : Int32))])
  refine Go.step (fun _ k => XS.isub X23.here hx rfl (hb hby d9_6) rfl k) ?_
  show Go _ _ _ _ _ _ _ T23 (mkF m 7 #[.val (.long (281474976710655 : Int64)), .second] [(.int (48 : Int32))])
  refine Go.step (fun _ k => XS.bipush X23.here hx rfl (hb hby d9_7) k) ?_
  show Go _ _ _ _ _ _ _ T23 (mkF m 9 #[.val (.long (281474976710655 : Int64)), .second] [(.int (8 : Int32)), (.int (48 : Int32))])
  refine Go.step (fun _ k => XS.iadd X23.here hx rfl (hb hby d9_9) rfl k) ?_
  show Go _ _ _ _ _ _ _ T23 (mkF m 10 #[.val (.long (281474976710655 : Int64)), .second] [(.int (56 : Int32))])
  refine Go.step (fun _ k => XS.iconst X23.here hx rfl (hb hby d9_10) k) ?_
  show Go _ _ _ _ _ _ _ T23 (mkF m 11 #[.val (.long (281474976710655 : Int64)), .second] [(.int (1 : Int32)), (.int (56 : Int32))])
  refine Go.step (fun _ k => XS.isub X23.here hx rfl (hb hby d9_11) rfl k) ?_
  show Go _ _ _ _ _ _ _ T23 (mkF m 12 #[.val (.long (281474976710655 : Int64)), .second] [(.int (55 : Int32))])
  refine Go.step (fun _ k => XS.bipush X23.here hx rfl (hb hby d9_12) k) ?_
  show Go _ _ _ _ _ _ _ T23 (mkF m 14 #[.val (.long (281474976710655 : Int64)), .second] [(.int (8 : Int32)), (.int (55 : Int32))])
  refine Go.step (fun _ k => XS.idiv X23.here hx rfl (hb hby d9_14) rfl (by decide) k) ?_
  show Go _ _ _ _ _ _ _ T23 (mkF m 15 #[.val (.long (281474976710655 : Int64)), .second] [(.int (6 : Int32))])
  exact Go.retI X23 hx hret hlk (hb hby d9_15) e23 (by decide) (by decide) ⟨rfl, N23, rfl⟩
theorem d7_0 : decode prog_39_method_12_code 0 = .ok (.lload_n 0, 1) := by decide +kernel
theorem d7_1 : decode prog_39_method_12_code 1 = .ok (.lconst 1, 1) := by decide +kernel
theorem d7_2 : decode prog_39_method_12_code 2 = .ok (.lsub, 1) := by decide +kernel
theorem d7_3 : decode prog_39_method_12_code 3 = .ok (.lconst 0, 1) := by decide +kernel
theorem d7_4 : decode prog_39_method_12_code 4 = .ok (.invokestatic 92, 3) := by decide +kernel
theorem d7_7 : decode prog_39_method_12_code 7 = .ok (.invokestatic 22, 3) := by decide +kernel
theorem d7_10 : decode prog_39_method_12_code 10 = .ok (.ireturn, 1) := by decide +kernel
theorem pd__JJ_J : parseMethodDescriptor "(JJ)J" = some ⟨[.long, .long], some .long⟩ := by decide +kernel
theorem pn_com_example_termvault_termvault_FieldLengths : plainName "com/example/termvault/termvault/FieldLengths" = true := by first | (simp [plainName, overriddenIn]; done) | decide +kernel
theorem ef_rmNW1 (m : MethodId)  : entryFrame m #[(.long (1 : Int64))] 2 = mkF m 0 #[.val (.long (1 : Int64)), .second] [] := by first | (simp [entryFrame, mkF, argsToLocals, Value.category]; done) | rfl
def Q_rmNW1 (Z : State)  (h0 : Heap) (n0 : Nat) (v : Option Value) (h : Heap) (L : List Loc) : Prop := (v = some (.int (0 : Int32))) ∧ (Fr n0 L) ∧ (h = h0)
set_option maxRecDepth 65536 in
set_option maxHeartbeats 40000000 in
theorem rmNW1 (l : Launch) (Z : State) (a0 : Array Value) (hw : ∀ d ∈ tables_1, d.before a0 Z = true) (ws : List Jvm.Cond)  (h0 : Heap) (n0 : Nat) (Z0 : n0 ≤ h0.size) :
    MetFree l (⟨"com/example/termvault/termvault/FieldLengths", "numberWidth", "(J)I"⟩ : MethodName) (head1 (Jvm.Cond.code (⟨"com/example/termvault/termvault/FieldLengths", "numberWidth", "(J)I"⟩ : MethodName) prog_39_method_12_code 2 (some .int) :: ws) ({ frames := 3, cells := 0, slots := 0, locals := 42 } : Room)) (fun aA U => aA = #[(.long (1 : Int64))] ∧ Z.Warmed39 U.vm ∧ U.heap = h0) (fun _ _ _ _ _ => True) (fun _ U o U' => ∃ v L, o = .returned v ∧ Q_rmNW1 Z  h0 n0 v U'.heap L ∧ FrameEnd U o U' L ({ frames := 3, cells := 0, slots := 0, locals := 42 } : Room).cells ({ frames := 3, cells := 0, slots := 0, locals := 42 } : Room).slots) := by
  refine MetFree.of_bodySF (plainFor_of_name pn_com_example_termvault_termvault_FieldLengths) hisR ?_
  intro p e s m args below meth c s₁ Bd hml0 hP hK
  obtain ⟨rfl, hZ, hh⟩ := hP
  have hx := Bd.exec
  have hby := Bd.bytes
  have hml : c.maxLocals = 2 := hml0
  have hown : s.vm.findClass "com/example/termvault/termvault/FieldLengths" = some m.cls := findClass_of_methodNamed Bd.named
  have hnm := (name_of_methodNamed Bd.named Bd.method).1
  have hret := Bd.returns
  have hlk : meth.locks = false := BodyLoose.notSynchronized Bd
  have X0 : Stand p l e ({ frames := 3, cells := 0, slots := 0, locals := 42 } : Room) s m #[(.long (1 : Int64))] below meth c s₁ [] 0 0 := Stand.of_body Bd
  have e0 : s₁.heap = h0 := by rw [← hh, Bd.state]; rfl
  have N0 := Fr.nil n0
  suffices hgo : Go p e below s ({ frames := 3, cells := 0, slots := 0, locals := 42 } : Room).cells ({ frames := 3, cells := 0, slots := 0, locals := 42 } : Room).slots (Q_rmNW1 Z  h0 n0) s₁ (mkF m 0 #[.val (.long (1 : Int64)), .second] []) from hgo.enter (ef_rmNW1 m )
  refine Go.step (fun _ k => XS.lloadN X0.here hx rfl (hb hby d7_0) rfl k) ?_
  show Go _ _ _ _ _ _ _ s₁ (mkF m 1 #[.val (.long (1 : Int64)), .second] [(.long (1 : Int64))])
  refine Go.step (fun _ k => XS.lconst X0.here hx rfl (hb hby d7_1) k) ?_
  show Go _ _ _ _ _ _ _ s₁ (mkF m 2 #[.val (.long (1 : Int64)), .second] [(.long (1 : Int64)), (.long (1 : Int64))])
  refine Go.step (fun _ k => XS.lsub X0.here hx rfl (hb hby d7_2) rfl k) ?_
  show Go _ _ _ _ _ _ _ s₁ (mkF m 3 #[.val (.long (1 : Int64)), .second] [(.long (0 : Int64))])
  refine Go.step (fun _ k => XS.lconst X0.here hx rfl (hb hby d7_3) k) ?_
  show Go _ _ _ _ _ _ _ s₁ (mkF m 4 #[.val (.long (1 : Int64)), .second] [(.long (0 : Int64)), (.long (0 : Int64))])
  obtain ⟨_, _, ⟨T24, L24, k24, n24⟩, -, X24, ⟨Lc24, hQ24, l24, y24, z24⟩, st24⟩ := Jvm.LawKit.callS X0 hx (y := (⟨"java/lang/Math", "max", "(JJ)J"⟩ : MethodName)) hown (mvT hZ (hw _ (List.mem_of_getElem? (i := 40) rfl))) (mvT hZ (hw _ (List.mem_of_getElem? (i := 41) rfl))) (mvT hZ (hw _ (List.mem_of_getElem? (i := 42) rfl))) (mvT hZ (hw _ (List.mem_of_getElem? (i := 43) rfl))) (by decide) (backOf (W := 0) (rmMax l Z a0 hw [] (0 : Int64) (0 : Int64) h0 n0 Z0 ) hZ (hw _ (List.mem_of_getElem? (i := 43) rfl)) (hw _ (List.mem_of_getElem? (i := 42) rfl)) (by decide) (by decide)) (g := (mkF m 4 #[.val (.long (1 : Int64)), .second] [(.long (0 : Int64)), (.long (0 : Int64))])) rfl (by rw [hml]; rfl) (argsL := [(.long (0 : Int64)), (.long (0 : Int64))]) (rest := []) (lenOf pd__JJ_J rfl) rfl (by show 2 * 0 + _ ≤ _; exact Nat.le_of_eq rfl) (hb hby d7_4) (fun _ _ => ⟨rfl, e0, (by decide : 0 + 0 ≤ _), (by decide : 0 + 0 ≤ _)⟩)
  dsimp only [Pt.U, Pt.locs, Pt.cells, Pt.slots] at X24 l24 y24 z24 st24 hQ24
  subst l24 y24 z24
  obtain ⟨h24, e24⟩ : ∃ h, T24.heap = h := ⟨_, rfl⟩
  rw [e24] at hQ24
  obtain ⟨rfl, Nq24, hs24⟩ := hQ24
  have N24 := Fr.app N0 Nq24
  rw [hs24] at e24
  refine Go.step st24 ?_
  have qmx : (own_max (0 : Int64) (0 : Int64)) = (0 : Int64) := by decide
  rw [qmx]
  show Go _ _ _ _ _ _ _ T24 (mkF m 7 #[.val (.long (1 : Int64)), .second] [(.long (0 : Int64))])
  obtain ⟨_, _, ⟨T25, L25, k25, n25⟩, -, X25, ⟨Lc25, hQ25, l25, y25, z25⟩, st25⟩ := Jvm.LawKit.callS X24 hx (y := (⟨"com/example/termvault/termvault/UnsignedTable", "width", "(J)I"⟩ : MethodName)) hown (mvT hZ (hw _ (List.mem_of_getElem? (i := 44) rfl))) (mvT hZ (hw _ (List.mem_of_getElem? (i := 45) rfl))) (mvT hZ (hw _ (List.mem_of_getElem? (i := 46) rfl))) (mvT hZ (hw _ (List.mem_of_getElem? (i := 47) rfl))) (by decide) (backOf (W := 0) (rmNU0 l Z a0 hw []  h0 n0 Z0 ) hZ (hw _ (List.mem_of_getElem? (i := 47) rfl)) (hw _ (List.mem_of_getElem? (i := 46) rfl)) (by decide) (by decide)) (g := (mkF m 7 #[.val (.long (1 : Int64)), .second] [(.long (0 : Int64))])) rfl (by rw [hml]; rfl) (argsL := [(.long (0 : Int64))]) (rest := []) (lenOf pd__J_I rfl) rfl (by show 2 * 0 + _ ≤ _; exact Nat.le_of_eq rfl) (hb hby d7_7) (fun _ _ => ⟨rfl, e24, (by decide : 0 + 0 ≤ _), (by decide : 0 + 0 ≤ _)⟩)
  dsimp only [Pt.U, Pt.locs, Pt.cells, Pt.slots] at X25 l25 y25 z25 st25 hQ25
  subst l25 y25 z25
  obtain ⟨h25, e25⟩ : ∃ h, T25.heap = h := ⟨_, rfl⟩
  rw [e25] at hQ25
  obtain ⟨rfl, Nq25, hs25⟩ := hQ25
  have N25 := Fr.app N24 Nq25
  rw [hs25] at e25
  refine Go.step st25 ?_
  show Go _ _ _ _ _ _ _ T25 (mkF m 10 #[.val (.long (1 : Int64)), .second] [(.int (0 : Int32))])
  exact Go.retI X25 hx hret hlk (hb hby d7_10) e25 (by decide) (by decide) ⟨rfl, N25, rfl⟩
theorem d6_0 : decode prog_39_method_14_code 0 = .ok (.lload_n 0, 1) := by decide +kernel
theorem d6_1 : decode prog_39_method_14_code 1 = .ok (.lload_n 2, 1) := by decide +kernel
theorem d6_2 : decode prog_39_method_14_code 2 = .ok (.invokestatic 36, 3) := by decide +kernel
theorem d6_5 : decode prog_39_method_14_code 5 = .ok (.i2l, 1) := by decide +kernel
theorem d6_6 : decode prog_39_method_14_code 6 = .ok (.lmul, 1) := by decide +kernel
theorem d6_7 : decode prog_39_method_14_code 7 = .ok (.lload 4, 2) := by decide +kernel
theorem d6_9 : decode prog_39_method_14_code 9 = .ok (.ladd, 1) := by decide +kernel
theorem d6_10 : decode prog_39_method_14_code 10 = .ok (.lreturn, 1) := by decide +kernel
theorem ef_rmNL1 (m : MethodId) (ja : Int64) (jc : Int64) : entryFrame m #[(.long ja), (.long (1 : Int64)), (.long jc)] 6 = mkF m 0 #[.val (.long ja), .second, .val (.long (1 : Int64)), .second, .val (.long jc), .second] [] := by first | (simp [entryFrame, mkF, argsToLocals, Value.category]; done) | rfl
def Q_rmNL1 (Z : State) (ja : Int64) (jc : Int64) (h0 : Heap) (n0 : Nat) (v : Option Value) (h : Heap) (L : List Loc) : Prop := (v = some (.long ((ja * (0 : Int64)) + jc))) ∧ (Fr n0 L) ∧ (h = h0)
set_option maxRecDepth 65536 in
set_option maxHeartbeats 40000000 in
theorem rmNL1 (l : Launch) (Z : State) (a0 : Array Value) (hw : ∀ d ∈ tables_1, d.before a0 Z = true) (ws : List Jvm.Cond) (ja : Int64) (jc : Int64) (h0 : Heap) (n0 : Nat) (Z0 : n0 ≤ h0.size) :
    MetFree l (⟨"com/example/termvault/termvault/FieldLengths", "listingBytes", "(JJJ)J"⟩ : MethodName) (head1 (Jvm.Cond.code (⟨"com/example/termvault/termvault/FieldLengths", "listingBytes", "(JJJ)J"⟩ : MethodName) prog_39_method_14_code 6 (some .long) :: ws) ({ frames := 4, cells := 0, slots := 0, locals := 57 } : Room)) (fun aA U => aA = #[(.long ja), (.long (1 : Int64)), (.long jc)] ∧ Z.Warmed39 U.vm ∧ U.heap = h0) (fun _ _ _ _ _ => True) (fun _ U o U' => ∃ v L, o = .returned v ∧ Q_rmNL1 Z ja jc h0 n0 v U'.heap L ∧ FrameEnd U o U' L ({ frames := 4, cells := 0, slots := 0, locals := 57 } : Room).cells ({ frames := 4, cells := 0, slots := 0, locals := 57 } : Room).slots) := by
  refine MetFree.of_bodySF (plainFor_of_name pn_com_example_termvault_termvault_FieldLengths) hisR ?_
  intro p e s m args below meth c s₁ Bd hml0 hP hK
  obtain ⟨rfl, hZ, hh⟩ := hP
  have hx := Bd.exec
  have hby := Bd.bytes
  have hml : c.maxLocals = 6 := hml0
  have hown : s.vm.findClass "com/example/termvault/termvault/FieldLengths" = some m.cls := findClass_of_methodNamed Bd.named
  have hnm := (name_of_methodNamed Bd.named Bd.method).1
  have hret := Bd.returns
  have hlk : meth.locks = false := BodyLoose.notSynchronized Bd
  have X0 : Stand p l e ({ frames := 4, cells := 0, slots := 0, locals := 57 } : Room) s m #[(.long ja), (.long (1 : Int64)), (.long jc)] below meth c s₁ [] 0 0 := Stand.of_body Bd
  have e0 : s₁.heap = h0 := by rw [← hh, Bd.state]; rfl
  have N0 := Fr.nil n0
  suffices hgo : Go p e below s ({ frames := 4, cells := 0, slots := 0, locals := 57 } : Room).cells ({ frames := 4, cells := 0, slots := 0, locals := 57 } : Room).slots (Q_rmNL1 Z ja jc h0 n0) s₁ (mkF m 0 #[.val (.long ja), .second, .val (.long (1 : Int64)), .second, .val (.long jc), .second] []) from hgo.enter (ef_rmNL1 m ja jc)
  refine Go.step (fun _ k => XS.lloadN X0.here hx rfl (hb hby d6_0) rfl k) ?_
  show Go _ _ _ _ _ _ _ s₁ (mkF m 1 #[.val (.long ja), .second, .val (.long (1 : Int64)), .second, .val (.long jc), .second] [(.long ja)])
  refine Go.step (fun _ k => XS.lloadN X0.here hx rfl (hb hby d6_1) rfl k) ?_
  show Go _ _ _ _ _ _ _ s₁ (mkF m 2 #[.val (.long ja), .second, .val (.long (1 : Int64)), .second, .val (.long jc), .second] [(.long (1 : Int64)), (.long ja)])
  obtain ⟨_, _, ⟨T26, L26, k26, n26⟩, -, X26, ⟨Lc26, hQ26, l26, y26, z26⟩, st26⟩ := Jvm.LawKit.callS X0 hx (y := (⟨"com/example/termvault/termvault/FieldLengths", "numberWidth", "(J)I"⟩ : MethodName)) hown (mvT hZ (hw _ (List.mem_of_getElem? (i := 37) rfl))) (mvT hZ (hw _ (List.mem_of_getElem? (i := 38) rfl))) (mvT hZ (hw _ (List.mem_of_getElem? (i := 32) rfl))) (mvT hZ (hw _ (List.mem_of_getElem? (i := 39) rfl))) (by decide) (backOf (W := 2) (rmNW1 l Z a0 hw []  h0 n0 Z0 ) hZ (hw _ (List.mem_of_getElem? (i := 39) rfl)) (hw _ (List.mem_of_getElem? (i := 32) rfl)) (by decide) (by decide)) (g := (mkF m 2 #[.val (.long ja), .second, .val (.long (1 : Int64)), .second, .val (.long jc), .second] [(.long (1 : Int64)), (.long ja)])) rfl (by rw [hml]; rfl) (argsL := [(.long (1 : Int64))]) (rest := [(.long ja)]) (lenOf pd__J_I rfl) rfl (by show 2 * 0 + _ ≤ _; exact Nat.le_of_eq rfl) (hb hby d6_2) (fun _ _ => ⟨rfl, e0, (by decide : 0 + 0 ≤ _), (by decide : 0 + 0 ≤ _)⟩)
  dsimp only [Pt.U, Pt.locs, Pt.cells, Pt.slots] at X26 l26 y26 z26 st26 hQ26
  subst l26 y26 z26
  obtain ⟨h26, e26⟩ : ∃ h, T26.heap = h := ⟨_, rfl⟩
  rw [e26] at hQ26
  obtain ⟨rfl, Nq26, hs26⟩ := hQ26
  have N26 := Fr.app N0 Nq26
  rw [hs26] at e26
  refine Go.step st26 ?_
  show Go _ _ _ _ _ _ _ T26 (mkF m 5 #[.val (.long ja), .second, .val (.long (1 : Int64)), .second, .val (.long jc), .second] [(.int (0 : Int32)), (.long ja)])
  refine Go.step (fun _ k => XS.i2l X26.here hx rfl (hb hby d6_5) rfl k) ?_
  show Go _ _ _ _ _ _ _ T26 (mkF m 6 #[.val (.long ja), .second, .val (.long (1 : Int64)), .second, .val (.long jc), .second] [(.long (0 : Int64)), (.long ja)])
  refine Go.step (fun _ k => XS.lmul X26.here hx rfl (hb hby d6_6) rfl k) ?_
  show Go _ _ _ _ _ _ _ T26 (mkF m 7 #[.val (.long ja), .second, .val (.long (1 : Int64)), .second, .val (.long jc), .second] [(.long (ja * (0 : Int64)))])
  refine Go.step (fun _ k => XS.lload X26.here hx rfl (hb hby d6_7) rfl k) ?_
  show Go _ _ _ _ _ _ _ T26 (mkF m 9 #[.val (.long ja), .second, .val (.long (1 : Int64)), .second, .val (.long jc), .second] [(.long jc), (.long (ja * (0 : Int64)))])
  refine Go.step (fun _ k => XS.ladd X26.here hx rfl (hb hby d6_9) rfl k) ?_
  show Go _ _ _ _ _ _ _ T26 (mkF m 10 #[.val (.long ja), .second, .val (.long (1 : Int64)), .second, .val (.long jc), .second] [(.long ((ja * (0 : Int64)) + jc))])
  exact Go.retJ X26 hx hret hlk (hb hby d6_10) e26 (by decide) (by decide) ⟨rfl, N26, rfl⟩
theorem ef_rmNW1099511627776 (m : MethodId)  : entryFrame m #[(.long (1099511627776 : Int64))] 2 = mkF m 0 #[.val (.long (1099511627776 : Int64)), .second] [] := by first | (simp [entryFrame, mkF, argsToLocals, Value.category]; done) | rfl
def Q_rmNW1099511627776 (Z : State)  (h0 : Heap) (n0 : Nat) (v : Option Value) (h : Heap) (L : List Loc) : Prop := (v = some (.int (5 : Int32))) ∧ (Fr n0 L) ∧ (h = h0)
set_option maxRecDepth 65536 in
set_option maxHeartbeats 40000000 in
theorem rmNW1099511627776 (l : Launch) (Z : State) (a0 : Array Value) (hw : ∀ d ∈ tables_1, d.before a0 Z = true) (ws : List Jvm.Cond)  (h0 : Heap) (n0 : Nat) (Z0 : n0 ≤ h0.size) :
    MetFree l (⟨"com/example/termvault/termvault/FieldLengths", "numberWidth", "(J)I"⟩ : MethodName) (head1 (Jvm.Cond.code (⟨"com/example/termvault/termvault/FieldLengths", "numberWidth", "(J)I"⟩ : MethodName) prog_39_method_12_code 2 (some .int) :: ws) ({ frames := 3, cells := 0, slots := 0, locals := 41 } : Room)) (fun aA U => aA = #[(.long (1099511627776 : Int64))] ∧ Z.Warmed39 U.vm ∧ U.heap = h0) (fun _ _ _ _ _ => True) (fun _ U o U' => ∃ v L, o = .returned v ∧ Q_rmNW1099511627776 Z  h0 n0 v U'.heap L ∧ FrameEnd U o U' L ({ frames := 3, cells := 0, slots := 0, locals := 41 } : Room).cells ({ frames := 3, cells := 0, slots := 0, locals := 41 } : Room).slots) := by
  refine MetFree.of_bodySF (plainFor_of_name pn_com_example_termvault_termvault_FieldLengths) hisR ?_
  intro p e s m args below meth c s₁ Bd hml0 hP hK
  obtain ⟨rfl, hZ, hh⟩ := hP
  have hx := Bd.exec
  have hby := Bd.bytes
  have hml : c.maxLocals = 2 := hml0
  have hown : s.vm.findClass "com/example/termvault/termvault/FieldLengths" = some m.cls := findClass_of_methodNamed Bd.named
  have hnm := (name_of_methodNamed Bd.named Bd.method).1
  have hret := Bd.returns
  have hlk : meth.locks = false := BodyLoose.notSynchronized Bd
  have X0 : Stand p l e ({ frames := 3, cells := 0, slots := 0, locals := 41 } : Room) s m #[(.long (1099511627776 : Int64))] below meth c s₁ [] 0 0 := Stand.of_body Bd
  have e0 : s₁.heap = h0 := by rw [← hh, Bd.state]; rfl
  have N0 := Fr.nil n0
  suffices hgo : Go p e below s ({ frames := 3, cells := 0, slots := 0, locals := 41 } : Room).cells ({ frames := 3, cells := 0, slots := 0, locals := 41 } : Room).slots (Q_rmNW1099511627776 Z  h0 n0) s₁ (mkF m 0 #[.val (.long (1099511627776 : Int64)), .second] []) from hgo.enter (ef_rmNW1099511627776 m )
  refine Go.step (fun _ k => XS.lloadN X0.here hx rfl (hb hby d7_0) rfl k) ?_
  show Go _ _ _ _ _ _ _ s₁ (mkF m 1 #[.val (.long (1099511627776 : Int64)), .second] [(.long (1099511627776 : Int64))])
  refine Go.step (fun _ k => XS.lconst X0.here hx rfl (hb hby d7_1) k) ?_
  show Go _ _ _ _ _ _ _ s₁ (mkF m 2 #[.val (.long (1099511627776 : Int64)), .second] [(.long (1 : Int64)), (.long (1099511627776 : Int64))])
  refine Go.step (fun _ k => XS.lsub X0.here hx rfl (hb hby d7_2) rfl k) ?_
  show Go _ _ _ _ _ _ _ s₁ (mkF m 3 #[.val (.long (1099511627776 : Int64)), .second] [(.long (1099511627775 : Int64))])
  refine Go.step (fun _ k => XS.lconst X0.here hx rfl (hb hby d7_3) k) ?_
  show Go _ _ _ _ _ _ _ s₁ (mkF m 4 #[.val (.long (1099511627776 : Int64)), .second] [(.long (0 : Int64)), (.long (1099511627775 : Int64))])
  obtain ⟨_, _, ⟨T27, L27, k27, n27⟩, -, X27, ⟨Lc27, hQ27, l27, y27, z27⟩, st27⟩ := Jvm.LawKit.callS X0 hx (y := (⟨"java/lang/Math", "max", "(JJ)J"⟩ : MethodName)) hown (mvT hZ (hw _ (List.mem_of_getElem? (i := 40) rfl))) (mvT hZ (hw _ (List.mem_of_getElem? (i := 41) rfl))) (mvT hZ (hw _ (List.mem_of_getElem? (i := 42) rfl))) (mvT hZ (hw _ (List.mem_of_getElem? (i := 43) rfl))) (by decide) (backOf (W := 0) (rmMax l Z a0 hw [] (1099511627775 : Int64) (0 : Int64) h0 n0 Z0 ) hZ (hw _ (List.mem_of_getElem? (i := 43) rfl)) (hw _ (List.mem_of_getElem? (i := 42) rfl)) (by decide) (by decide)) (g := (mkF m 4 #[.val (.long (1099511627776 : Int64)), .second] [(.long (0 : Int64)), (.long (1099511627775 : Int64))])) rfl (by rw [hml]; rfl) (argsL := [(.long (1099511627775 : Int64)), (.long (0 : Int64))]) (rest := []) (lenOf pd__JJ_J rfl) rfl (by show 2 * 0 + _ ≤ _; exact Nat.le_of_eq rfl) (hb hby d7_4) (fun _ _ => ⟨rfl, e0, (by decide : 0 + 0 ≤ _), (by decide : 0 + 0 ≤ _)⟩)
  dsimp only [Pt.U, Pt.locs, Pt.cells, Pt.slots] at X27 l27 y27 z27 st27 hQ27
  subst l27 y27 z27
  obtain ⟨h27, e27⟩ : ∃ h, T27.heap = h := ⟨_, rfl⟩
  rw [e27] at hQ27
  obtain ⟨rfl, Nq27, hs27⟩ := hQ27
  have N27 := Fr.app N0 Nq27
  rw [hs27] at e27
  refine Go.step st27 ?_
  have qmx : (own_max (1099511627775 : Int64) (0 : Int64)) = (1099511627775 : Int64) := by decide
  rw [qmx]
  show Go _ _ _ _ _ _ _ T27 (mkF m 7 #[.val (.long (1099511627776 : Int64)), .second] [(.long (1099511627775 : Int64))])
  obtain ⟨_, _, ⟨T28, L28, k28, n28⟩, -, X28, ⟨Lc28, hQ28, l28, y28, z28⟩, st28⟩ := Jvm.LawKit.callS X27 hx (y := (⟨"com/example/termvault/termvault/UnsignedTable", "width", "(J)I"⟩ : MethodName)) hown (mvT hZ (hw _ (List.mem_of_getElem? (i := 44) rfl))) (mvT hZ (hw _ (List.mem_of_getElem? (i := 45) rfl))) (mvT hZ (hw _ (List.mem_of_getElem? (i := 46) rfl))) (mvT hZ (hw _ (List.mem_of_getElem? (i := 47) rfl))) (by decide) (backOf (W := 0) (rmNU1099511627775 l Z a0 hw []  h0 n0 Z0 ) hZ (hw _ (List.mem_of_getElem? (i := 47) rfl)) (hw _ (List.mem_of_getElem? (i := 46) rfl)) (by decide) (by decide)) (g := (mkF m 7 #[.val (.long (1099511627776 : Int64)), .second] [(.long (1099511627775 : Int64))])) rfl (by rw [hml]; rfl) (argsL := [(.long (1099511627775 : Int64))]) (rest := []) (lenOf pd__J_I rfl) rfl (by show 2 * 0 + _ ≤ _; exact Nat.le_of_eq rfl) (hb hby d7_7) (fun _ _ => ⟨rfl, e27, (by decide : 0 + 0 ≤ _), (by decide : 0 + 0 ≤ _)⟩)
  dsimp only [Pt.U, Pt.locs, Pt.cells, Pt.slots] at X28 l28 y28 z28 st28 hQ28
  subst l28 y28 z28
  obtain ⟨h28, e28⟩ : ∃ h, T28.heap = h := ⟨_, rfl⟩
  rw [e28] at hQ28
  obtain ⟨rfl, Nq28, hs28⟩ := hQ28
  have N28 := Fr.app N27 Nq28
  rw [hs28] at e28
  refine Go.step st28 ?_
  show Go _ _ _ _ _ _ _ T28 (mkF m 10 #[.val (.long (1099511627776 : Int64)), .second] [(.int (5 : Int32))])
  exact Go.retI X28 hx hret hlk (hb hby d7_10) e28 (by decide) (by decide) ⟨rfl, N28, rfl⟩
theorem ef_rmNL1099511627776 (m : MethodId) (ja : Int64) (jc : Int64) : entryFrame m #[(.long ja), (.long (1099511627776 : Int64)), (.long jc)] 6 = mkF m 0 #[.val (.long ja), .second, .val (.long (1099511627776 : Int64)), .second, .val (.long jc), .second] [] := by first | (simp [entryFrame, mkF, argsToLocals, Value.category]; done) | rfl
def Q_rmNL1099511627776 (Z : State) (ja : Int64) (jc : Int64) (h0 : Heap) (n0 : Nat) (v : Option Value) (h : Heap) (L : List Loc) : Prop := (v = some (.long ((ja * (5 : Int64)) + jc))) ∧ (Fr n0 L) ∧ (h = h0)
set_option maxRecDepth 65536 in
set_option maxHeartbeats 40000000 in
theorem rmNL1099511627776 (l : Launch) (Z : State) (a0 : Array Value) (hw : ∀ d ∈ tables_1, d.before a0 Z = true) (ws : List Jvm.Cond) (ja : Int64) (jc : Int64) (h0 : Heap) (n0 : Nat) (Z0 : n0 ≤ h0.size) :
    MetFree l (⟨"com/example/termvault/termvault/FieldLengths", "listingBytes", "(JJJ)J"⟩ : MethodName) (head1 (Jvm.Cond.code (⟨"com/example/termvault/termvault/FieldLengths", "listingBytes", "(JJJ)J"⟩ : MethodName) prog_39_method_14_code 6 (some .long) :: ws) ({ frames := 4, cells := 0, slots := 0, locals := 56 } : Room)) (fun aA U => aA = #[(.long ja), (.long (1099511627776 : Int64)), (.long jc)] ∧ Z.Warmed39 U.vm ∧ U.heap = h0) (fun _ _ _ _ _ => True) (fun _ U o U' => ∃ v L, o = .returned v ∧ Q_rmNL1099511627776 Z ja jc h0 n0 v U'.heap L ∧ FrameEnd U o U' L ({ frames := 4, cells := 0, slots := 0, locals := 56 } : Room).cells ({ frames := 4, cells := 0, slots := 0, locals := 56 } : Room).slots) := by
  refine MetFree.of_bodySF (plainFor_of_name pn_com_example_termvault_termvault_FieldLengths) hisR ?_
  intro p e s m args below meth c s₁ Bd hml0 hP hK
  obtain ⟨rfl, hZ, hh⟩ := hP
  have hx := Bd.exec
  have hby := Bd.bytes
  have hml : c.maxLocals = 6 := hml0
  have hown : s.vm.findClass "com/example/termvault/termvault/FieldLengths" = some m.cls := findClass_of_methodNamed Bd.named
  have hnm := (name_of_methodNamed Bd.named Bd.method).1
  have hret := Bd.returns
  have hlk : meth.locks = false := BodyLoose.notSynchronized Bd
  have X0 : Stand p l e ({ frames := 4, cells := 0, slots := 0, locals := 56 } : Room) s m #[(.long ja), (.long (1099511627776 : Int64)), (.long jc)] below meth c s₁ [] 0 0 := Stand.of_body Bd
  have e0 : s₁.heap = h0 := by rw [← hh, Bd.state]; rfl
  have N0 := Fr.nil n0
  suffices hgo : Go p e below s ({ frames := 4, cells := 0, slots := 0, locals := 56 } : Room).cells ({ frames := 4, cells := 0, slots := 0, locals := 56 } : Room).slots (Q_rmNL1099511627776 Z ja jc h0 n0) s₁ (mkF m 0 #[.val (.long ja), .second, .val (.long (1099511627776 : Int64)), .second, .val (.long jc), .second] []) from hgo.enter (ef_rmNL1099511627776 m ja jc)
  refine Go.step (fun _ k => XS.lloadN X0.here hx rfl (hb hby d6_0) rfl k) ?_
  show Go _ _ _ _ _ _ _ s₁ (mkF m 1 #[.val (.long ja), .second, .val (.long (1099511627776 : Int64)), .second, .val (.long jc), .second] [(.long ja)])
  refine Go.step (fun _ k => XS.lloadN X0.here hx rfl (hb hby d6_1) rfl k) ?_
  show Go _ _ _ _ _ _ _ s₁ (mkF m 2 #[.val (.long ja), .second, .val (.long (1099511627776 : Int64)), .second, .val (.long jc), .second] [(.long (1099511627776 : Int64)), (.long ja)])
  obtain ⟨_, _, ⟨T29, L29, k29, n29⟩, -, X29, ⟨Lc29, hQ29, l29, y29, z29⟩, st29⟩ := Jvm.LawKit.callS X0 hx (y := (⟨"com/example/termvault/termvault/FieldLengths", "numberWidth", "(J)I"⟩ : MethodName)) hown (mvT hZ (hw _ (List.mem_of_getElem? (i := 37) rfl))) (mvT hZ (hw _ (List.mem_of_getElem? (i := 38) rfl))) (mvT hZ (hw _ (List.mem_of_getElem? (i := 32) rfl))) (mvT hZ (hw _ (List.mem_of_getElem? (i := 39) rfl))) (by decide) (backOf (W := 2) (rmNW1099511627776 l Z a0 hw []  h0 n0 Z0 ) hZ (hw _ (List.mem_of_getElem? (i := 39) rfl)) (hw _ (List.mem_of_getElem? (i := 32) rfl)) (by decide) (by decide)) (g := (mkF m 2 #[.val (.long ja), .second, .val (.long (1099511627776 : Int64)), .second, .val (.long jc), .second] [(.long (1099511627776 : Int64)), (.long ja)])) rfl (by rw [hml]; rfl) (argsL := [(.long (1099511627776 : Int64))]) (rest := [(.long ja)]) (lenOf pd__J_I rfl) rfl (by show 2 * 0 + _ ≤ _; exact Nat.le_of_eq rfl) (hb hby d6_2) (fun _ _ => ⟨rfl, e0, (by decide : 0 + 0 ≤ _), (by decide : 0 + 0 ≤ _)⟩)
  dsimp only [Pt.U, Pt.locs, Pt.cells, Pt.slots] at X29 l29 y29 z29 st29 hQ29
  subst l29 y29 z29
  obtain ⟨h29, e29⟩ : ∃ h, T29.heap = h := ⟨_, rfl⟩
  rw [e29] at hQ29
  obtain ⟨rfl, Nq29, hs29⟩ := hQ29
  have N29 := Fr.app N0 Nq29
  rw [hs29] at e29
  refine Go.step st29 ?_
  show Go _ _ _ _ _ _ _ T29 (mkF m 5 #[.val (.long ja), .second, .val (.long (1099511627776 : Int64)), .second, .val (.long jc), .second] [(.int (5 : Int32)), (.long ja)])
  refine Go.step (fun _ k => XS.i2l X29.here hx rfl (hb hby d6_5) rfl k) ?_
  show Go _ _ _ _ _ _ _ T29 (mkF m 6 #[.val (.long ja), .second, .val (.long (1099511627776 : Int64)), .second, .val (.long jc), .second] [(.long (5 : Int64)), (.long ja)])
  refine Go.step (fun _ k => XS.lmul X29.here hx rfl (hb hby d6_6) rfl k) ?_
  show Go _ _ _ _ _ _ _ T29 (mkF m 7 #[.val (.long ja), .second, .val (.long (1099511627776 : Int64)), .second, .val (.long jc), .second] [(.long (ja * (5 : Int64)))])
  refine Go.step (fun _ k => XS.lload X29.here hx rfl (hb hby d6_7) rfl k) ?_
  show Go _ _ _ _ _ _ _ T29 (mkF m 9 #[.val (.long ja), .second, .val (.long (1099511627776 : Int64)), .second, .val (.long jc), .second] [(.long jc), (.long (ja * (5 : Int64)))])
  refine Go.step (fun _ k => XS.ladd X29.here hx rfl (hb hby d6_9) rfl k) ?_
  show Go _ _ _ _ _ _ _ T29 (mkF m 10 #[.val (.long ja), .second, .val (.long (1099511627776 : Int64)), .second, .val (.long jc), .second] [(.long ((ja * (5 : Int64)) + jc))])
  exact Go.retJ X29 hx hret hlk (hb hby d6_10) e29 (by decide) (by decide) ⟨rfl, N29, rfl⟩
theorem ef_rmNW281474976710656 (m : MethodId)  : entryFrame m #[(.long (281474976710656 : Int64))] 2 = mkF m 0 #[.val (.long (281474976710656 : Int64)), .second] [] := by first | (simp [entryFrame, mkF, argsToLocals, Value.category]; done) | rfl
def Q_rmNW281474976710656 (Z : State)  (h0 : Heap) (n0 : Nat) (v : Option Value) (h : Heap) (L : List Loc) : Prop := (v = some (.int (6 : Int32))) ∧ (Fr n0 L) ∧ (h = h0)
set_option maxRecDepth 65536 in
set_option maxHeartbeats 40000000 in
theorem rmNW281474976710656 (l : Launch) (Z : State) (a0 : Array Value) (hw : ∀ d ∈ tables_1, d.before a0 Z = true) (ws : List Jvm.Cond)  (h0 : Heap) (n0 : Nat) (Z0 : n0 ≤ h0.size) :
    MetFree l (⟨"com/example/termvault/termvault/FieldLengths", "numberWidth", "(J)I"⟩ : MethodName) (head1 (Jvm.Cond.code (⟨"com/example/termvault/termvault/FieldLengths", "numberWidth", "(J)I"⟩ : MethodName) prog_39_method_12_code 2 (some .int) :: ws) ({ frames := 3, cells := 0, slots := 0, locals := 41 } : Room)) (fun aA U => aA = #[(.long (281474976710656 : Int64))] ∧ Z.Warmed39 U.vm ∧ U.heap = h0) (fun _ _ _ _ _ => True) (fun _ U o U' => ∃ v L, o = .returned v ∧ Q_rmNW281474976710656 Z  h0 n0 v U'.heap L ∧ FrameEnd U o U' L ({ frames := 3, cells := 0, slots := 0, locals := 41 } : Room).cells ({ frames := 3, cells := 0, slots := 0, locals := 41 } : Room).slots) := by
  refine MetFree.of_bodySF (plainFor_of_name pn_com_example_termvault_termvault_FieldLengths) hisR ?_
  intro p e s m args below meth c s₁ Bd hml0 hP hK
  obtain ⟨rfl, hZ, hh⟩ := hP
  have hx := Bd.exec
  have hby := Bd.bytes
  have hml : c.maxLocals = 2 := hml0
  have hown : s.vm.findClass "com/example/termvault/termvault/FieldLengths" = some m.cls := findClass_of_methodNamed Bd.named
  have hnm := (name_of_methodNamed Bd.named Bd.method).1
  have hret := Bd.returns
  have hlk : meth.locks = false := BodyLoose.notSynchronized Bd
  have X0 : Stand p l e ({ frames := 3, cells := 0, slots := 0, locals := 41 } : Room) s m #[(.long (281474976710656 : Int64))] below meth c s₁ [] 0 0 := Stand.of_body Bd
  have e0 : s₁.heap = h0 := by rw [← hh, Bd.state]; rfl
  have N0 := Fr.nil n0
  suffices hgo : Go p e below s ({ frames := 3, cells := 0, slots := 0, locals := 41 } : Room).cells ({ frames := 3, cells := 0, slots := 0, locals := 41 } : Room).slots (Q_rmNW281474976710656 Z  h0 n0) s₁ (mkF m 0 #[.val (.long (281474976710656 : Int64)), .second] []) from hgo.enter (ef_rmNW281474976710656 m )
  refine Go.step (fun _ k => XS.lloadN X0.here hx rfl (hb hby d7_0) rfl k) ?_
  show Go _ _ _ _ _ _ _ s₁ (mkF m 1 #[.val (.long (281474976710656 : Int64)), .second] [(.long (281474976710656 : Int64))])
  refine Go.step (fun _ k => XS.lconst X0.here hx rfl (hb hby d7_1) k) ?_
  show Go _ _ _ _ _ _ _ s₁ (mkF m 2 #[.val (.long (281474976710656 : Int64)), .second] [(.long (1 : Int64)), (.long (281474976710656 : Int64))])
  refine Go.step (fun _ k => XS.lsub X0.here hx rfl (hb hby d7_2) rfl k) ?_
  show Go _ _ _ _ _ _ _ s₁ (mkF m 3 #[.val (.long (281474976710656 : Int64)), .second] [(.long (281474976710655 : Int64))])
  refine Go.step (fun _ k => XS.lconst X0.here hx rfl (hb hby d7_3) k) ?_
  show Go _ _ _ _ _ _ _ s₁ (mkF m 4 #[.val (.long (281474976710656 : Int64)), .second] [(.long (0 : Int64)), (.long (281474976710655 : Int64))])
  obtain ⟨_, _, ⟨T30, L30, k30, n30⟩, -, X30, ⟨Lc30, hQ30, l30, y30, z30⟩, st30⟩ := Jvm.LawKit.callS X0 hx (y := (⟨"java/lang/Math", "max", "(JJ)J"⟩ : MethodName)) hown (mvT hZ (hw _ (List.mem_of_getElem? (i := 40) rfl))) (mvT hZ (hw _ (List.mem_of_getElem? (i := 41) rfl))) (mvT hZ (hw _ (List.mem_of_getElem? (i := 42) rfl))) (mvT hZ (hw _ (List.mem_of_getElem? (i := 43) rfl))) (by decide) (backOf (W := 0) (rmMax l Z a0 hw [] (281474976710655 : Int64) (0 : Int64) h0 n0 Z0 ) hZ (hw _ (List.mem_of_getElem? (i := 43) rfl)) (hw _ (List.mem_of_getElem? (i := 42) rfl)) (by decide) (by decide)) (g := (mkF m 4 #[.val (.long (281474976710656 : Int64)), .second] [(.long (0 : Int64)), (.long (281474976710655 : Int64))])) rfl (by rw [hml]; rfl) (argsL := [(.long (281474976710655 : Int64)), (.long (0 : Int64))]) (rest := []) (lenOf pd__JJ_J rfl) rfl (by show 2 * 0 + _ ≤ _; exact Nat.le_of_eq rfl) (hb hby d7_4) (fun _ _ => ⟨rfl, e0, (by decide : 0 + 0 ≤ _), (by decide : 0 + 0 ≤ _)⟩)
  dsimp only [Pt.U, Pt.locs, Pt.cells, Pt.slots] at X30 l30 y30 z30 st30 hQ30
  subst l30 y30 z30
  obtain ⟨h30, e30⟩ : ∃ h, T30.heap = h := ⟨_, rfl⟩
  rw [e30] at hQ30
  obtain ⟨rfl, Nq30, hs30⟩ := hQ30
  have N30 := Fr.app N0 Nq30
  rw [hs30] at e30
  refine Go.step st30 ?_
  have qmx : (own_max (281474976710655 : Int64) (0 : Int64)) = (281474976710655 : Int64) := by decide
  rw [qmx]
  show Go _ _ _ _ _ _ _ T30 (mkF m 7 #[.val (.long (281474976710656 : Int64)), .second] [(.long (281474976710655 : Int64))])
  obtain ⟨_, _, ⟨T31, L31, k31, n31⟩, -, X31, ⟨Lc31, hQ31, l31, y31, z31⟩, st31⟩ := Jvm.LawKit.callS X30 hx (y := (⟨"com/example/termvault/termvault/UnsignedTable", "width", "(J)I"⟩ : MethodName)) hown (mvT hZ (hw _ (List.mem_of_getElem? (i := 44) rfl))) (mvT hZ (hw _ (List.mem_of_getElem? (i := 45) rfl))) (mvT hZ (hw _ (List.mem_of_getElem? (i := 46) rfl))) (mvT hZ (hw _ (List.mem_of_getElem? (i := 47) rfl))) (by decide) (backOf (W := 0) (rmNU281474976710655 l Z a0 hw []  h0 n0 Z0 ) hZ (hw _ (List.mem_of_getElem? (i := 47) rfl)) (hw _ (List.mem_of_getElem? (i := 46) rfl)) (by decide) (by decide)) (g := (mkF m 7 #[.val (.long (281474976710656 : Int64)), .second] [(.long (281474976710655 : Int64))])) rfl (by rw [hml]; rfl) (argsL := [(.long (281474976710655 : Int64))]) (rest := []) (lenOf pd__J_I rfl) rfl (by show 2 * 0 + _ ≤ _; exact Nat.le_of_eq rfl) (hb hby d7_7) (fun _ _ => ⟨rfl, e30, (by decide : 0 + 0 ≤ _), (by decide : 0 + 0 ≤ _)⟩)
  dsimp only [Pt.U, Pt.locs, Pt.cells, Pt.slots] at X31 l31 y31 z31 st31 hQ31
  subst l31 y31 z31
  obtain ⟨h31, e31⟩ : ∃ h, T31.heap = h := ⟨_, rfl⟩
  rw [e31] at hQ31
  obtain ⟨rfl, Nq31, hs31⟩ := hQ31
  have N31 := Fr.app N30 Nq31
  rw [hs31] at e31
  refine Go.step st31 ?_
  show Go _ _ _ _ _ _ _ T31 (mkF m 10 #[.val (.long (281474976710656 : Int64)), .second] [(.int (6 : Int32))])
  exact Go.retI X31 hx hret hlk (hb hby d7_10) e31 (by decide) (by decide) ⟨rfl, N31, rfl⟩
theorem ef_rmNL281474976710656 (m : MethodId) (ja : Int64) (jc : Int64) : entryFrame m #[(.long ja), (.long (281474976710656 : Int64)), (.long jc)] 6 = mkF m 0 #[.val (.long ja), .second, .val (.long (281474976710656 : Int64)), .second, .val (.long jc), .second] [] := by first | (simp [entryFrame, mkF, argsToLocals, Value.category]; done) | rfl
def Q_rmNL281474976710656 (Z : State) (ja : Int64) (jc : Int64) (h0 : Heap) (n0 : Nat) (v : Option Value) (h : Heap) (L : List Loc) : Prop := (v = some (.long ((ja * (6 : Int64)) + jc))) ∧ (Fr n0 L) ∧ (h = h0)
set_option maxRecDepth 65536 in
set_option maxHeartbeats 40000000 in
theorem rmNL281474976710656 (l : Launch) (Z : State) (a0 : Array Value) (hw : ∀ d ∈ tables_1, d.before a0 Z = true) (ws : List Jvm.Cond) (ja : Int64) (jc : Int64) (h0 : Heap) (n0 : Nat) (Z0 : n0 ≤ h0.size) :
    MetFree l (⟨"com/example/termvault/termvault/FieldLengths", "listingBytes", "(JJJ)J"⟩ : MethodName) (head1 (Jvm.Cond.code (⟨"com/example/termvault/termvault/FieldLengths", "listingBytes", "(JJJ)J"⟩ : MethodName) prog_39_method_14_code 6 (some .long) :: ws) ({ frames := 4, cells := 0, slots := 0, locals := 56 } : Room)) (fun aA U => aA = #[(.long ja), (.long (281474976710656 : Int64)), (.long jc)] ∧ Z.Warmed39 U.vm ∧ U.heap = h0) (fun _ _ _ _ _ => True) (fun _ U o U' => ∃ v L, o = .returned v ∧ Q_rmNL281474976710656 Z ja jc h0 n0 v U'.heap L ∧ FrameEnd U o U' L ({ frames := 4, cells := 0, slots := 0, locals := 56 } : Room).cells ({ frames := 4, cells := 0, slots := 0, locals := 56 } : Room).slots) := by
  refine MetFree.of_bodySF (plainFor_of_name pn_com_example_termvault_termvault_FieldLengths) hisR ?_
  intro p e s m args below meth c s₁ Bd hml0 hP hK
  obtain ⟨rfl, hZ, hh⟩ := hP
  have hx := Bd.exec
  have hby := Bd.bytes
  have hml : c.maxLocals = 6 := hml0
  have hown : s.vm.findClass "com/example/termvault/termvault/FieldLengths" = some m.cls := findClass_of_methodNamed Bd.named
  have hnm := (name_of_methodNamed Bd.named Bd.method).1
  have hret := Bd.returns
  have hlk : meth.locks = false := BodyLoose.notSynchronized Bd
  have X0 : Stand p l e ({ frames := 4, cells := 0, slots := 0, locals := 56 } : Room) s m #[(.long ja), (.long (281474976710656 : Int64)), (.long jc)] below meth c s₁ [] 0 0 := Stand.of_body Bd
  have e0 : s₁.heap = h0 := by rw [← hh, Bd.state]; rfl
  have N0 := Fr.nil n0
  suffices hgo : Go p e below s ({ frames := 4, cells := 0, slots := 0, locals := 56 } : Room).cells ({ frames := 4, cells := 0, slots := 0, locals := 56 } : Room).slots (Q_rmNL281474976710656 Z ja jc h0 n0) s₁ (mkF m 0 #[.val (.long ja), .second, .val (.long (281474976710656 : Int64)), .second, .val (.long jc), .second] []) from hgo.enter (ef_rmNL281474976710656 m ja jc)
  refine Go.step (fun _ k => XS.lloadN X0.here hx rfl (hb hby d6_0) rfl k) ?_
  show Go _ _ _ _ _ _ _ s₁ (mkF m 1 #[.val (.long ja), .second, .val (.long (281474976710656 : Int64)), .second, .val (.long jc), .second] [(.long ja)])
  refine Go.step (fun _ k => XS.lloadN X0.here hx rfl (hb hby d6_1) rfl k) ?_
  show Go _ _ _ _ _ _ _ s₁ (mkF m 2 #[.val (.long ja), .second, .val (.long (281474976710656 : Int64)), .second, .val (.long jc), .second] [(.long (281474976710656 : Int64)), (.long ja)])
  obtain ⟨_, _, ⟨T32, L32, k32, n32⟩, -, X32, ⟨Lc32, hQ32, l32, y32, z32⟩, st32⟩ := Jvm.LawKit.callS X0 hx (y := (⟨"com/example/termvault/termvault/FieldLengths", "numberWidth", "(J)I"⟩ : MethodName)) hown (mvT hZ (hw _ (List.mem_of_getElem? (i := 37) rfl))) (mvT hZ (hw _ (List.mem_of_getElem? (i := 38) rfl))) (mvT hZ (hw _ (List.mem_of_getElem? (i := 32) rfl))) (mvT hZ (hw _ (List.mem_of_getElem? (i := 39) rfl))) (by decide) (backOf (W := 2) (rmNW281474976710656 l Z a0 hw []  h0 n0 Z0 ) hZ (hw _ (List.mem_of_getElem? (i := 39) rfl)) (hw _ (List.mem_of_getElem? (i := 32) rfl)) (by decide) (by decide)) (g := (mkF m 2 #[.val (.long ja), .second, .val (.long (281474976710656 : Int64)), .second, .val (.long jc), .second] [(.long (281474976710656 : Int64)), (.long ja)])) rfl (by rw [hml]; rfl) (argsL := [(.long (281474976710656 : Int64))]) (rest := [(.long ja)]) (lenOf pd__J_I rfl) rfl (by show 2 * 0 + _ ≤ _; exact Nat.le_of_eq rfl) (hb hby d6_2) (fun _ _ => ⟨rfl, e0, (by decide : 0 + 0 ≤ _), (by decide : 0 + 0 ≤ _)⟩)
  dsimp only [Pt.U, Pt.locs, Pt.cells, Pt.slots] at X32 l32 y32 z32 st32 hQ32
  subst l32 y32 z32
  obtain ⟨h32, e32⟩ : ∃ h, T32.heap = h := ⟨_, rfl⟩
  rw [e32] at hQ32
  obtain ⟨rfl, Nq32, hs32⟩ := hQ32
  have N32 := Fr.app N0 Nq32
  rw [hs32] at e32
  refine Go.step st32 ?_
  show Go _ _ _ _ _ _ _ T32 (mkF m 5 #[.val (.long ja), .second, .val (.long (281474976710656 : Int64)), .second, .val (.long jc), .second] [(.int (6 : Int32)), (.long ja)])
  refine Go.step (fun _ k => XS.i2l X32.here hx rfl (hb hby d6_5) rfl k) ?_
  show Go _ _ _ _ _ _ _ T32 (mkF m 6 #[.val (.long ja), .second, .val (.long (281474976710656 : Int64)), .second, .val (.long jc), .second] [(.long (6 : Int64)), (.long ja)])
  refine Go.step (fun _ k => XS.lmul X32.here hx rfl (hb hby d6_6) rfl k) ?_
  show Go _ _ _ _ _ _ _ T32 (mkF m 7 #[.val (.long ja), .second, .val (.long (281474976710656 : Int64)), .second, .val (.long jc), .second] [(.long (ja * (6 : Int64)))])
  refine Go.step (fun _ k => XS.lload X32.here hx rfl (hb hby d6_7) rfl k) ?_
  show Go _ _ _ _ _ _ _ T32 (mkF m 9 #[.val (.long ja), .second, .val (.long (281474976710656 : Int64)), .second, .val (.long jc), .second] [(.long jc), (.long (ja * (6 : Int64)))])
  refine Go.step (fun _ k => XS.ladd X32.here hx rfl (hb hby d6_9) rfl k) ?_
  show Go _ _ _ _ _ _ _ T32 (mkF m 10 #[.val (.long ja), .second, .val (.long (281474976710656 : Int64)), .second, .val (.long jc), .second] [(.long ((ja * (6 : Int64)) + jc))])
  exact Go.retJ X32 hx hret hlk (hb hby d6_10) e32 (by decide) (by decide) ⟨rfl, N32, rfl⟩
theorem d5_0 : decode prog_39_method_13_code 0 = .ok (.lload_n 0, 1) := by decide +kernel
theorem d5_1 : decode prog_39_method_13_code 1 = .ok (.lload_n 2, 1) := by decide +kernel
theorem d5_2 : decode prog_39_method_13_code 2 = .ok (.lmul, 1) := by decide +kernel
theorem d5_3 : decode prog_39_method_13_code 3 = .ok (.lreturn, 1) := by decide +kernel
theorem ef_rmEv (m : MethodId) (ja : Int64) (jb : Int64) : entryFrame m #[(.long ja), (.long jb)] 4 = mkF m 0 #[.val (.long ja), .second, .val (.long jb), .second] [] := by first | (simp [entryFrame, mkF, argsToLocals, Value.category]; done) | rfl
def Q_rmEv (Z : State) (ja : Int64) (jb : Int64) (h0 : Heap) (n0 : Nat) (v : Option Value) (h : Heap) (L : List Loc) : Prop := (v = some (.long (ja * jb))) ∧ (Fr n0 L) ∧ (h = h0)
set_option maxRecDepth 65536 in
set_option maxHeartbeats 40000000 in
theorem rmEv (l : Launch) (Z : State) (a0 : Array Value) (hw : ∀ d ∈ tables_1, d.before a0 Z = true) (ws : List Jvm.Cond) (ja : Int64) (jb : Int64) (h0 : Heap) (n0 : Nat) (Z0 : n0 ≤ h0.size) :
    MetFree l (⟨"com/example/termvault/termvault/FieldLengths", "everyDocumentBytes", "(JJ)J"⟩ : MethodName) (head1 (Jvm.Cond.code (⟨"com/example/termvault/termvault/FieldLengths", "everyDocumentBytes", "(JJ)J"⟩ : MethodName) prog_39_method_13_code 4 (some .long) :: ws) ({ frames := 0, cells := 0, slots := 0, locals := 0 } : Room)) (fun aA U => aA = #[(.long ja), (.long jb)] ∧ Z.Warmed39 U.vm ∧ U.heap = h0) (fun _ _ _ _ _ => True) (fun _ U o U' => ∃ v L, o = .returned v ∧ Q_rmEv Z ja jb h0 n0 v U'.heap L ∧ FrameEnd U o U' L ({ frames := 0, cells := 0, slots := 0, locals := 0 } : Room).cells ({ frames := 0, cells := 0, slots := 0, locals := 0 } : Room).slots) := by
  refine MetFree.of_bodySF (plainFor_of_name pn_com_example_termvault_termvault_FieldLengths) hisR ?_
  intro p e s m args below meth c s₁ Bd hml0 hP hK
  obtain ⟨rfl, hZ, hh⟩ := hP
  have hx := Bd.exec
  have hby := Bd.bytes
  have hml : c.maxLocals = 4 := hml0
  have hown : s.vm.findClass "com/example/termvault/termvault/FieldLengths" = some m.cls := findClass_of_methodNamed Bd.named
  have hnm := (name_of_methodNamed Bd.named Bd.method).1
  have hret := Bd.returns
  have hlk : meth.locks = false := BodyLoose.notSynchronized Bd
  have X0 : Stand p l e ({ frames := 0, cells := 0, slots := 0, locals := 0 } : Room) s m #[(.long ja), (.long jb)] below meth c s₁ [] 0 0 := Stand.of_body Bd
  have e0 : s₁.heap = h0 := by rw [← hh, Bd.state]; rfl
  have N0 := Fr.nil n0
  suffices hgo : Go p e below s ({ frames := 0, cells := 0, slots := 0, locals := 0 } : Room).cells ({ frames := 0, cells := 0, slots := 0, locals := 0 } : Room).slots (Q_rmEv Z ja jb h0 n0) s₁ (mkF m 0 #[.val (.long ja), .second, .val (.long jb), .second] []) from hgo.enter (ef_rmEv m ja jb)
  refine Go.step (fun _ k => XS.lloadN X0.here hx rfl (hb hby d5_0) rfl k) ?_
  show Go _ _ _ _ _ _ _ s₁ (mkF m 1 #[.val (.long ja), .second, .val (.long jb), .second] [(.long ja)])
  refine Go.step (fun _ k => XS.lloadN X0.here hx rfl (hb hby d5_1) rfl k) ?_
  show Go _ _ _ _ _ _ _ s₁ (mkF m 2 #[.val (.long ja), .second, .val (.long jb), .second] [(.long jb), (.long ja)])
  refine Go.step (fun _ k => XS.lmul X0.here hx rfl (hb hby d5_2) rfl k) ?_
  show Go _ _ _ _ _ _ _ s₁ (mkF m 3 #[.val (.long ja), .second, .val (.long jb), .second] [(.long (ja * jb))])
  exact Go.retJ X0 hx hret hlk (hb hby d5_3) e0 (by decide) (by decide) ⟨rfl, N0, rfl⟩
theorem d1_0 : decode prog_41_method_1_code 0 = .ok (.aload_n 0, 1) := by decide +kernel
theorem d1_1 : decode prog_41_method_1_code 1 = .ok (.invokespecial 1, 3) := by decide +kernel
theorem d1_4 : decode prog_41_method_1_code 4 = .ok (.return_, 1) := by decide +kernel
theorem pd___V : parseMethodDescriptor "()V" = some ⟨[], none⟩ := by decide +kernel
theorem pn_com_example_termvault_termvault_FieldLengths_Tally : plainName "com/example/termvault/termvault/FieldLengths$Tally" = true := by first | (simp [plainName, overriddenIn]; done) | decide +kernel
theorem ef_rmIn (m : MethodId) (ao : Addr) : entryFrame m #[(.ref ao)] 1 = mkF m 0 #[.val (.ref ao)] [] := by first | (simp [entryFrame, mkF, argsToLocals, Value.category]; done) | rfl
def Q_rmIn (Z : State) (ao : Addr) (h0 : Heap) (n0 : Nat) (v : Option Value) (h : Heap) (L : List Loc) : Prop := (v = none) ∧ (Fr n0 L) ∧ (h = h0)
set_option maxRecDepth 65536 in
set_option maxHeartbeats 40000000 in
theorem rmIn (l : Launch) (Z : State) (a0 : Array Value) (hw : ∀ d ∈ tables_1, d.before a0 Z = true) (ws : List Jvm.Cond) (ao : Addr) (h0 : Heap) (n0 : Nat) (Z0 : n0 ≤ h0.size) (E0 : Exa Z h0 ao "com/example/termvault/termvault/FieldLengths$Tally") :
    MetFree l (⟨"com/example/termvault/termvault/FieldLengths$Tally", "<init>", "()V"⟩ : MethodName) (head1 (Jvm.Cond.code (⟨"com/example/termvault/termvault/FieldLengths$Tally", "<init>", "()V"⟩ : MethodName) prog_41_method_1_code 1 none :: ws) ({ frames := 1, cells := 0, slots := 0, locals := 12 } : Room)) (fun aA U => aA = #[(.ref ao)] ∧ Z.Warmed39 U.vm ∧ U.heap = h0) (fun _ _ _ _ _ => True) (fun _ U o U' => ∃ v L, o = .returned v ∧ Q_rmIn Z ao h0 n0 v U'.heap L ∧ FrameEnd U o U' L ({ frames := 1, cells := 0, slots := 0, locals := 12 } : Room).cells ({ frames := 1, cells := 0, slots := 0, locals := 12 } : Room).slots) := by
  refine MetFree.of_bodySF (plainFor_of_name pn_com_example_termvault_termvault_FieldLengths_Tally) hisR ?_
  intro p e s m args below meth c s₁ Bd hml0 hP hK
  obtain ⟨rfl, hZ, hh⟩ := hP
  have hx := Bd.exec
  have hby := Bd.bytes
  have hml : c.maxLocals = 1 := hml0
  have hown : s.vm.findClass "com/example/termvault/termvault/FieldLengths$Tally" = some m.cls := findClass_of_methodNamed Bd.named
  have hnm := (name_of_methodNamed Bd.named Bd.method).1
  have hret := Bd.returns
  have hlk : meth.locks = false := BodyLoose.notSynchronized Bd
  have X0 : Stand p l e ({ frames := 1, cells := 0, slots := 0, locals := 12 } : Room) s m #[(.ref ao)] below meth c s₁ [] 0 0 := Stand.of_body Bd
  have e0 : s₁.heap = h0 := by rw [← hh, Bd.state]; rfl
  have N0 := Fr.nil n0
  suffices hgo : Go p e below s ({ frames := 1, cells := 0, slots := 0, locals := 12 } : Room).cells ({ frames := 1, cells := 0, slots := 0, locals := 12 } : Room).slots (Q_rmIn Z ao h0 n0) s₁ (mkF m 0 #[.val (.ref ao)] []) from hgo.enter (ef_rmIn m ao)
  refine Go.step (fun _ k => XS.aloadN X0.here hx rfl (hb hby d1_0) rfl rfl k) ?_
  show Go _ _ _ _ _ _ _ s₁ (mkF m 1 #[.val (.ref ao)] [(.ref ao)])
  obtain ⟨T33, X33, e33, st33⟩ := initO X0 hx hZ hown (hw _ (List.mem_of_getElem? (i := 7) rfl)) (hw _ (List.mem_of_getElem? (i := 8) rfl)) (hw _ (List.mem_of_getElem? (i := 9) rfl)) e0 (g := (mkF m 1 #[.val (.ref ao)] [(.ref ao)])) rfl (by rw [hml]; rfl) rfl (hb hby d1_1) (by decide) (W := 0) (by show 2 * 0 + _ ≤ _; exact Nat.le_of_eq rfl) (by decide)
  refine Go.step st33 ?_
  show Go _ _ _ _ _ _ _ T33 (mkF m 4 #[.val (.ref ao)] [])
  exact Go.ret0 X33 hx hret hlk (hb hby d1_4) e33 (by decide) (by decide) ⟨rfl, N0, rfl⟩
theorem d3_0 : decode prog_41_method_3_code 0 = .ok (.aload_n 0, 1) := by decide +kernel
theorem d3_1 : decode prog_41_method_3_code 1 = .ok (.dup, 1) := by decide +kernel
theorem d3_2 : decode prog_41_method_3_code 2 = .ok (.getfield 7, 3) := by decide +kernel
theorem d3_5 : decode prog_41_method_3_code 5 = .ok (.iload 4, 2) := by decide +kernel
theorem d3_7 : decode prog_41_method_3_code 7 = .ok (.iload_n 3, 1) := by decide +kernel
theorem d3_8 : decode prog_41_method_3_code 8 = .ok (.isub, 1) := by decide +kernel
theorem d3_9 : decode prog_41_method_3_code 9 = .ok (.i2l, 1) := by decide +kernel
theorem d3_10 : decode prog_41_method_3_code 10 = .ok (.ladd, 1) := by decide +kernel
theorem d3_11 : decode prog_41_method_3_code 11 = .ok (.putfield 7, 3) := by decide +kernel
theorem d3_14 : decode prog_41_method_3_code 14 = .ok (.aload_n 0, 1) := by decide +kernel
theorem d3_15 : decode prog_41_method_3_code 15 = .ok (.dup, 1) := by decide +kernel
theorem d3_16 : decode prog_41_method_3_code 16 = .ok (.getfield 16, 3) := by decide +kernel
theorem d3_19 : decode prog_41_method_3_code 19 = .ok (.lload_n 1, 1) := by decide +kernel
theorem d3_20 : decode prog_41_method_3_code 20 = .ok (.lconst 1, 1) := by decide +kernel
theorem d3_21 : decode prog_41_method_3_code 21 = .ok (.ladd, 1) := by decide +kernel
theorem d3_22 : decode prog_41_method_3_code 22 = .ok (.iload 4, 2) := by decide +kernel
theorem d3_24 : decode prog_41_method_3_code 24 = .ok (.i2l, 1) := by decide +kernel
theorem d3_25 : decode prog_41_method_3_code 25 = .ok (.lmul, 1) := by decide +kernel
theorem d3_26 : decode prog_41_method_3_code 26 = .ok (.lload_n 1, 1) := by decide +kernel
theorem d3_27 : decode prog_41_method_3_code 27 = .ok (.iload_n 3, 1) := by decide +kernel
theorem d3_28 : decode prog_41_method_3_code 28 = .ok (.i2l, 1) := by decide +kernel
theorem d3_29 : decode prog_41_method_3_code 29 = .ok (.lmul, 1) := by decide +kernel
theorem d3_30 : decode prog_41_method_3_code 30 = .ok (.lsub, 1) := by decide +kernel
theorem d3_31 : decode prog_41_method_3_code 31 = .ok (.ladd, 1) := by decide +kernel
theorem d3_32 : decode prog_41_method_3_code 32 = .ok (.putfield 16, 3) := by decide +kernel
theorem d3_35 : decode prog_41_method_3_code 35 = .ok (.aload_n 0, 1) := by decide +kernel
theorem d3_36 : decode prog_41_method_3_code 36 = .ok (.dup, 1) := by decide +kernel
theorem d3_37 : decode prog_41_method_3_code 37 = .ok (.getfield 13, 3) := by decide +kernel
theorem d3_40 : decode prog_41_method_3_code 40 = .ok (.lconst 1, 1) := by decide +kernel
theorem d3_41 : decode prog_41_method_3_code 41 = .ok (.ladd, 1) := by decide +kernel
theorem d3_42 : decode prog_41_method_3_code 42 = .ok (.putfield 13, 3) := by decide +kernel
theorem d3_45 : decode prog_41_method_3_code 45 = .ok (.return_, 1) := by decide +kernel
theorem ef_rmAd (m : MethodId) (ao : Addr) (ja : Int64) (i3 : Int32) (i4 : Int32) : entryFrame m #[(.ref ao), (.long ja), (.int i3), (.int i4)] 5 = mkF m 0 #[.val (.ref ao), .val (.long ja), .second, .val (.int i3), .val (.int i4)] [] := by first | (simp [entryFrame, mkF, argsToLocals, Value.category]; done) | rfl
def Q_rmAd (Z : State) (ao : Addr) (ja : Int64) (i3 : Int32) (i4 : Int32) (uw : Int64) (ub : Int64) (uh : Int64) (h0 : Heap) (n0 : Nat) (v : Option Value) (h : Heap) (L : List Loc) : Prop := (v = none) ∧ (Fr n0 L) ∧ (Keep h0 h [ao]) ∧ (Exa Z h ao "com/example/termvault/termvault/FieldLengths$Tally") ∧ (Fld Z h ao "com/example/termvault/termvault/FieldLengths$Tally" "widths" "J" (.long (uw + (i4 - i3).toInt64))) ∧ (Fld Z h ao "com/example/termvault/termvault/FieldLengths$Tally" "holderBytes" "J" (.long (ub + (((ja + (1 : Int64)) * i4.toInt64) - (ja * i3.toInt64))))) ∧ (Fld Z h ao "com/example/termvault/termvault/FieldLengths$Tally" "holders" "J" (.long (uh + (1 : Int64))))
set_option maxRecDepth 65536 in
set_option maxHeartbeats 40000000 in
theorem rmAd (l : Launch) (Z : State) (a0 : Array Value) (hw : ∀ d ∈ tables_1, d.before a0 Z = true) (ws : List Jvm.Cond) (ao : Addr) (ja : Int64) (i3 : Int32) (i4 : Int32) (uw : Int64) (ub : Int64) (uh : Int64) (h0 : Heap) (n0 : Nat) (Z0 : n0 ≤ h0.size) (E0 : Exa Z h0 ao "com/example/termvault/termvault/FieldLengths$Tally") (Fw : Fld Z h0 ao "com/example/termvault/termvault/FieldLengths$Tally" "widths" "J" (.long uw)) (Fb : Fld Z h0 ao "com/example/termvault/termvault/FieldLengths$Tally" "holderBytes" "J" (.long ub)) (Fh : Fld Z h0 ao "com/example/termvault/termvault/FieldLengths$Tally" "holders" "J" (.long uh)) (g0 : n0 ≤ ao) :
    MetFree l (⟨"com/example/termvault/termvault/FieldLengths$Tally", "add", "(JII)V"⟩ : MethodName) (head1 (Jvm.Cond.code (⟨"com/example/termvault/termvault/FieldLengths$Tally", "add", "(JII)V"⟩ : MethodName) prog_41_method_3_code 5 none :: ws) ({ frames := 0, cells := 0, slots := 0, locals := 0 } : Room)) (fun aA U => aA = #[(.ref ao), (.long ja), (.int i3), (.int i4)] ∧ Z.Warmed39 U.vm ∧ U.heap = h0) (fun _ _ _ _ _ => True) (fun _ U o U' => ∃ v L, o = .returned v ∧ Q_rmAd Z ao ja i3 i4 uw ub uh h0 n0 v U'.heap L ∧ FrameEnd U o U' L ({ frames := 0, cells := 0, slots := 0, locals := 0 } : Room).cells ({ frames := 0, cells := 0, slots := 0, locals := 0 } : Room).slots) := by
  refine MetFree.of_bodySF (plainFor_of_name pn_com_example_termvault_termvault_FieldLengths_Tally) hisR ?_
  intro p e s m args below meth c s₁ Bd hml0 hP hK
  obtain ⟨rfl, hZ, hh⟩ := hP
  have hx := Bd.exec
  have hby := Bd.bytes
  have hml : c.maxLocals = 5 := hml0
  have hown : s.vm.findClass "com/example/termvault/termvault/FieldLengths$Tally" = some m.cls := findClass_of_methodNamed Bd.named
  have hnm := (name_of_methodNamed Bd.named Bd.method).1
  have hret := Bd.returns
  have hlk : meth.locks = false := BodyLoose.notSynchronized Bd
  have X0 : Stand p l e ({ frames := 0, cells := 0, slots := 0, locals := 0 } : Room) s m #[(.ref ao), (.long ja), (.int i3), (.int i4)] below meth c s₁ [] 0 0 := Stand.of_body Bd
  have e0 : s₁.heap = h0 := by rw [← hh, Bd.state]; rfl
  have N0 := Fr.nil n0
  suffices hgo : Go p e below s ({ frames := 0, cells := 0, slots := 0, locals := 0 } : Room).cells ({ frames := 0, cells := 0, slots := 0, locals := 0 } : Room).slots (Q_rmAd Z ao ja i3 i4 uw ub uh h0 n0) s₁ (mkF m 0 #[.val (.ref ao), .val (.long ja), .second, .val (.int i3), .val (.int i4)] []) from hgo.enter (ef_rmAd m ao ja i3 i4)
  refine Go.step (fun _ k => XS.aloadN X0.here hx rfl (hb hby d3_0) rfl rfl k) ?_
  show Go _ _ _ _ _ _ _ s₁ (mkF m 1 #[.val (.ref ao), .val (.long ja), .second, .val (.int i3), .val (.int i4)] [(.ref ao)])
  refine Go.step (fun _ k => XS.dup X0.here hx rfl (hb hby d3_1) rfl rfl k) ?_
  show Go _ _ _ _ _ _ _ s₁ (mkF m 2 #[.val (.ref ao), .val (.long ja), .second, .val (.int i3), .val (.int i4)] [(.ref ao), (.ref ao)])
  obtain ⟨T34, X34, e34, st34⟩ := getF X0 hx hZ hown (host := "") (Or.inl (hw _ (List.mem_of_getElem? (i := 15) rfl))) Via.refl e0 Fw (g := (mkF m 2 #[.val (.ref ao), .val (.long ja), .second, .val (.int i3), .val (.int i4)] [(.ref ao), (.ref ao)])) rfl rfl (hb hby d3_2)
  refine Go.step st34 ?_
  show Go _ _ _ _ _ _ _ T34 (mkF m 5 #[.val (.ref ao), .val (.long ja), .second, .val (.int i3), .val (.int i4)] [(.long uw), (.ref ao)])
  refine Go.step (fun _ k => XS.iload X34.here hx rfl (hb hby d3_5) rfl k) ?_
  show Go _ _ _ _ _ _ _ T34 (mkF m 7 #[.val (.ref ao), .val (.long ja), .second, .val (.int i3), .val (.int i4)] [(.int i4), (.long uw), (.ref ao)])
  refine Go.step (fun _ k => XS.iloadN X34.here hx rfl (hb hby d3_7) rfl k) ?_
  show Go _ _ _ _ _ _ _ T34 (mkF m 8 #[.val (.ref ao), .val (.long ja), .second, .val (.int i3), .val (.int i4)] [(.int i3), (.int i4), (.long uw), (.ref ao)])
  refine Go.step (fun _ k => XS.isub X34.here hx rfl (hb hby d3_8) rfl k) ?_
  show Go _ _ _ _ _ _ _ T34 (mkF m 9 #[.val (.ref ao), .val (.long ja), .second, .val (.int i3), .val (.int i4)] [(.int (i4 - i3)), (.long uw), (.ref ao)])
  refine Go.step (fun _ k => XS.i2l X34.here hx rfl (hb hby d3_9) rfl k) ?_
  show Go _ _ _ _ _ _ _ T34 (mkF m 10 #[.val (.ref ao), .val (.long ja), .second, .val (.int i3), .val (.int i4)] [(.long ((i4 - i3).toInt64)), (.long uw), (.ref ao)])
  refine Go.step (fun _ k => XS.ladd X34.here hx rfl (hb hby d3_10) rfl k) ?_
  show Go _ _ _ _ _ _ _ T34 (mkF m 11 #[.val (.ref ao), .val (.long ja), .second, .val (.int i3), .val (.int i4)] [(.long (uw + ((i4 - i3).toInt64))), (.ref ao)])
  obtain ⟨T35, h35, X35, e35, W35, st35⟩ := putF X34 hx hZ hown (host := "") (Or.inl (hw _ (List.mem_of_getElem? (i := 15) rfl))) Via.refl e34 Fw E0 (Or.inl (hw _ (List.mem_of_getElem? (i := 16) rfl))) (hw _ (List.mem_of_getElem? (i := 2) rfl)) (ty := .long) (by decide) rfl rfl (g := (mkF m 11 #[.val (.ref ao), .val (.long ja), .second, .val (.int i3), .val (.int i4)] [(.long (uw + ((i4 - i3).toInt64))), (.ref ao)])) rfl rfl (hb hby d3_11)
  refine Go.step st35 ?_
  have Fw35 := Fw.same W35
  have N35 := Fr.snoc X35 N0 g0
  have Z35 : n0 ≤ h35.size := Nat.le_trans Z0 (Keep.of_wr W35).1
  have KK35 : Keep h0 h35 [ao] := (Keep.refl h0 [ao]).wr W35 (Or.inl (List.mem_of_getElem? (i := 0) rfl))
  show Go _ _ _ _ _ _ _ T35 (mkF m 14 #[.val (.ref ao), .val (.long ja), .second, .val (.int i3), .val (.int i4)] [])
  refine Go.step (fun _ k => XS.aloadN X35.here hx rfl (hb hby d3_14) rfl rfl k) ?_
  show Go _ _ _ _ _ _ _ T35 (mkF m 15 #[.val (.ref ao), .val (.long ja), .second, .val (.int i3), .val (.int i4)] [(.ref ao)])
  refine Go.step (fun _ k => XS.dup X35.here hx rfl (hb hby d3_15) rfl rfl k) ?_
  show Go _ _ _ _ _ _ _ T35 (mkF m 16 #[.val (.ref ao), .val (.long ja), .second, .val (.int i3), .val (.int i4)] [(.ref ao), (.ref ao)])
  have f36 : Fld Z h35 ao "com/example/termvault/termvault/FieldLengths$Tally" "holderBytes" "J" (.long ub) := (Fb.other W35 (Or.inr (slot_ne (a0 := a0) (C := "com/example/termvault/termvault/FieldLengths$Tally") (Or.inl (hw _ (List.mem_of_getElem? (i := 18) rfl))) (Or.inl (hw _ (List.mem_of_getElem? (i := 16) rfl))) (by decide) (t := .long) (t' := .long) (by decide) (by decide))))
  obtain ⟨T37, X37, e37, st37⟩ := getF X35 hx hZ hown (host := "") (Or.inl (hw _ (List.mem_of_getElem? (i := 17) rfl))) Via.refl e35 f36 (g := (mkF m 16 #[.val (.ref ao), .val (.long ja), .second, .val (.int i3), .val (.int i4)] [(.ref ao), (.ref ao)])) rfl rfl (hb hby d3_16)
  refine Go.step st37 ?_
  show Go _ _ _ _ _ _ _ T37 (mkF m 19 #[.val (.ref ao), .val (.long ja), .second, .val (.int i3), .val (.int i4)] [(.long ub), (.ref ao)])
  refine Go.step (fun _ k => XS.lloadN X37.here hx rfl (hb hby d3_19) rfl k) ?_
  show Go _ _ _ _ _ _ _ T37 (mkF m 20 #[.val (.ref ao), .val (.long ja), .second, .val (.int i3), .val (.int i4)] [(.long ja), (.long ub), (.ref ao)])
  refine Go.step (fun _ k => XS.lconst X37.here hx rfl (hb hby d3_20) k) ?_
  show Go _ _ _ _ _ _ _ T37 (mkF m 21 #[.val (.ref ao), .val (.long ja), .second, .val (.int i3), .val (.int i4)] [(.long (1 : Int64)), (.long ja), (.long ub), (.ref ao)])
  refine Go.step (fun _ k => XS.ladd X37.here hx rfl (hb hby d3_21) rfl k) ?_
  show Go _ _ _ _ _ _ _ T37 (mkF m 22 #[.val (.ref ao), .val (.long ja), .second, .val (.int i3), .val (.int i4)] [(.long (ja + (1 : Int64))), (.long ub), (.ref ao)])
  refine Go.step (fun _ k => XS.iload X37.here hx rfl (hb hby d3_22) rfl k) ?_
  show Go _ _ _ _ _ _ _ T37 (mkF m 24 #[.val (.ref ao), .val (.long ja), .second, .val (.int i3), .val (.int i4)] [(.int i4), (.long (ja + (1 : Int64))), (.long ub), (.ref ao)])
  refine Go.step (fun _ k => XS.i2l X37.here hx rfl (hb hby d3_24) rfl k) ?_
  show Go _ _ _ _ _ _ _ T37 (mkF m 25 #[.val (.ref ao), .val (.long ja), .second, .val (.int i3), .val (.int i4)] [(.long (i4.toInt64)), (.long (ja + (1 : Int64))), (.long ub), (.ref ao)])
  refine Go.step (fun _ k => XS.lmul X37.here hx rfl (hb hby d3_25) rfl k) ?_
  show Go _ _ _ _ _ _ _ T37 (mkF m 26 #[.val (.ref ao), .val (.long ja), .second, .val (.int i3), .val (.int i4)] [(.long ((ja + (1 : Int64)) * (i4.toInt64))), (.long ub), (.ref ao)])
  refine Go.step (fun _ k => XS.lloadN X37.here hx rfl (hb hby d3_26) rfl k) ?_
  show Go _ _ _ _ _ _ _ T37 (mkF m 27 #[.val (.ref ao), .val (.long ja), .second, .val (.int i3), .val (.int i4)] [(.long ja), (.long ((ja + (1 : Int64)) * (i4.toInt64))), (.long ub), (.ref ao)])
  refine Go.step (fun _ k => XS.iloadN X37.here hx rfl (hb hby d3_27) rfl k) ?_
  show Go _ _ _ _ _ _ _ T37 (mkF m 28 #[.val (.ref ao), .val (.long ja), .second, .val (.int i3), .val (.int i4)] [(.int i3), (.long ja), (.long ((ja + (1 : Int64)) * (i4.toInt64))), (.long ub), (.ref ao)])
  refine Go.step (fun _ k => XS.i2l X37.here hx rfl (hb hby d3_28) rfl k) ?_
  show Go _ _ _ _ _ _ _ T37 (mkF m 29 #[.val (.ref ao), .val (.long ja), .second, .val (.int i3), .val (.int i4)] [(.long (i3.toInt64)), (.long ja), (.long ((ja + (1 : Int64)) * (i4.toInt64))), (.long ub), (.ref ao)])
  refine Go.step (fun _ k => XS.lmul X37.here hx rfl (hb hby d3_29) rfl k) ?_
  show Go _ _ _ _ _ _ _ T37 (mkF m 30 #[.val (.ref ao), .val (.long ja), .second, .val (.int i3), .val (.int i4)] [(.long (ja * (i3.toInt64))), (.long ((ja + (1 : Int64)) * (i4.toInt64))), (.long ub), (.ref ao)])
  refine Go.step (fun _ k => XS.lsub X37.here hx rfl (hb hby d3_30) rfl k) ?_
  show Go _ _ _ _ _ _ _ T37 (mkF m 31 #[.val (.ref ao), .val (.long ja), .second, .val (.int i3), .val (.int i4)] [(.long (((ja + (1 : Int64)) * (i4.toInt64)) - (ja * (i3.toInt64)))), (.long ub), (.ref ao)])
  refine Go.step (fun _ k => XS.ladd X37.here hx rfl (hb hby d3_31) rfl k) ?_
  show Go _ _ _ _ _ _ _ T37 (mkF m 32 #[.val (.ref ao), .val (.long ja), .second, .val (.int i3), .val (.int i4)] [(.long (ub + (((ja + (1 : Int64)) * (i4.toInt64)) - (ja * (i3.toInt64))))), (.ref ao)])
  have f38 : Exa Z h35 ao "com/example/termvault/termvault/FieldLengths$Tally" := (E0.wr W35)
  obtain ⟨T39, h39, X39, e39, W39, st39⟩ := putF X37 hx hZ hown (host := "") (Or.inl (hw _ (List.mem_of_getElem? (i := 17) rfl))) Via.refl e37 f36 f38 (Or.inl (hw _ (List.mem_of_getElem? (i := 18) rfl))) (hw _ (List.mem_of_getElem? (i := 2) rfl)) (ty := .long) (by decide) rfl rfl (g := (mkF m 32 #[.val (.ref ao), .val (.long ja), .second, .val (.int i3), .val (.int i4)] [(.long (ub + (((ja + (1 : Int64)) * (i4.toInt64)) - (ja * (i3.toInt64))))), (.ref ao)])) rfl rfl (hb hby d3_32)
  refine Go.step st39 ?_
  have Fw39 := f36.same W39
  have N39 := Fr.snoc X39 N35 g0
  have Z39 : n0 ≤ h39.size := Nat.le_trans Z35 (Keep.of_wr W39).1
  have KK39 : Keep h0 h39 [ao] := KK35.wr W39 (Or.inl (List.mem_of_getElem? (i := 0) rfl))
  show Go _ _ _ _ _ _ _ T39 (mkF m 35 #[.val (.ref ao), .val (.long ja), .second, .val (.int i3), .val (.int i4)] [])
  refine Go.step (fun _ k => XS.aloadN X39.here hx rfl (hb hby d3_35) rfl rfl k) ?_
  show Go _ _ _ _ _ _ _ T39 (mkF m 36 #[.val (.ref ao), .val (.long ja), .second, .val (.int i3), .val (.int i4)] [(.ref ao)])
  refine Go.step (fun _ k => XS.dup X39.here hx rfl (hb hby d3_36) rfl rfl k) ?_
  show Go _ _ _ _ _ _ _ T39 (mkF m 37 #[.val (.ref ao), .val (.long ja), .second, .val (.int i3), .val (.int i4)] [(.ref ao), (.ref ao)])
  have f40 : Fld Z h39 ao "com/example/termvault/termvault/FieldLengths$Tally" "holders" "J" (.long uh) := ((Fh.other W35 (Or.inr (slot_ne (a0 := a0) (C := "com/example/termvault/termvault/FieldLengths$Tally") (Or.inl (hw _ (List.mem_of_getElem? (i := 20) rfl))) (Or.inl (hw _ (List.mem_of_getElem? (i := 16) rfl))) (by decide) (t := .long) (t' := .long) (by decide) (by decide)))).other W39 (Or.inr (slot_ne (a0 := a0) (C := "com/example/termvault/termvault/FieldLengths$Tally") (Or.inl (hw _ (List.mem_of_getElem? (i := 20) rfl))) (Or.inl (hw _ (List.mem_of_getElem? (i := 18) rfl))) (by decide) (t := .long) (t' := .long) (by decide) (by decide))))
  obtain ⟨T41, X41, e41, st41⟩ := getF X39 hx hZ hown (host := "") (Or.inl (hw _ (List.mem_of_getElem? (i := 19) rfl))) Via.refl e39 f40 (g := (mkF m 37 #[.val (.ref ao), .val (.long ja), .second, .val (.int i3), .val (.int i4)] [(.ref ao), (.ref ao)])) rfl rfl (hb hby d3_37)
  refine Go.step st41 ?_
  show Go _ _ _ _ _ _ _ T41 (mkF m 40 #[.val (.ref ao), .val (.long ja), .second, .val (.int i3), .val (.int i4)] [(.long uh), (.ref ao)])
  refine Go.step (fun _ k => XS.lconst X41.here hx rfl (hb hby d3_40) k) ?_
  show Go _ _ _ _ _ _ _ T41 (mkF m 41 #[.val (.ref ao), .val (.long ja), .second, .val (.int i3), .val (.int i4)] [(.long (1 : Int64)), (.long uh), (.ref ao)])
  refine Go.step (fun _ k => XS.ladd X41.here hx rfl (hb hby d3_41) rfl k) ?_
  show Go _ _ _ _ _ _ _ T41 (mkF m 42 #[.val (.ref ao), .val (.long ja), .second, .val (.int i3), .val (.int i4)] [(.long (uh + (1 : Int64))), (.ref ao)])
  have f42 : Exa Z h39 ao "com/example/termvault/termvault/FieldLengths$Tally" := (f38.wr W39)
  obtain ⟨T43, h43, X43, e43, W43, st43⟩ := putF X41 hx hZ hown (host := "") (Or.inl (hw _ (List.mem_of_getElem? (i := 19) rfl))) Via.refl e41 f40 f42 (Or.inl (hw _ (List.mem_of_getElem? (i := 20) rfl))) (hw _ (List.mem_of_getElem? (i := 2) rfl)) (ty := .long) (by decide) rfl rfl (g := (mkF m 42 #[.val (.ref ao), .val (.long ja), .second, .val (.int i3), .val (.int i4)] [(.long (uh + (1 : Int64))), (.ref ao)])) rfl rfl (hb hby d3_42)
  refine Go.step st43 ?_
  have Fw43 := f40.same W43
  have N43 := Fr.snoc X43 N39 g0
  have Z43 : n0 ≤ h43.size := Nat.le_trans Z39 (Keep.of_wr W43).1
  have KK43 : Keep h0 h43 [ao] := KK39.wr W43 (Or.inl (List.mem_of_getElem? (i := 0) rfl))
  show Go _ _ _ _ _ _ _ T43 (mkF m 45 #[.val (.ref ao), .val (.long ja), .second, .val (.int i3), .val (.int i4)] [])
  have f44 : Exa Z h43 ao "com/example/termvault/termvault/FieldLengths$Tally" := (f42.wr W43)
  have f45 : Fld Z h43 ao "com/example/termvault/termvault/FieldLengths$Tally" "widths" "J" (.long (uw + ((i4 - i3).toInt64))) := ((Fw35.other W39 (Or.inr (slot_ne (a0 := a0) (C := "com/example/termvault/termvault/FieldLengths$Tally") (Or.inl (hw _ (List.mem_of_getElem? (i := 16) rfl))) (Or.inl (hw _ (List.mem_of_getElem? (i := 18) rfl))) (by decide) (t := .long) (t' := .long) (by decide) (by decide)))).other W43 (Or.inr (slot_ne (a0 := a0) (C := "com/example/termvault/termvault/FieldLengths$Tally") (Or.inl (hw _ (List.mem_of_getElem? (i := 16) rfl))) (Or.inl (hw _ (List.mem_of_getElem? (i := 20) rfl))) (by decide) (t := .long) (t' := .long) (by decide) (by decide))))
  have f46 : Fld Z h43 ao "com/example/termvault/termvault/FieldLengths$Tally" "holderBytes" "J" (.long (ub + (((ja + (1 : Int64)) * (i4.toInt64)) - (ja * (i3.toInt64))))) := (Fw39.other W43 (Or.inr (slot_ne (a0 := a0) (C := "com/example/termvault/termvault/FieldLengths$Tally") (Or.inl (hw _ (List.mem_of_getElem? (i := 18) rfl))) (Or.inl (hw _ (List.mem_of_getElem? (i := 20) rfl))) (by decide) (t := .long) (t' := .long) (by decide) (by decide))))
  exact Go.ret0 X43 hx hret hlk (hb hby d3_45) e43 (by decide) (by decide) ⟨rfl, N43, KK43, f44, f45, f46, Fw43⟩
theorem d4_0 : decode prog_41_method_4_code 0 = .ok (.lload_n 1, 1) := by decide +kernel
theorem d4_1 : decode prog_41_method_4_code 1 = .ok (.aload_n 0, 1) := by decide +kernel
theorem d4_2 : decode prog_41_method_4_code 2 = .ok (.getfield 7, 3) := by decide +kernel
theorem d4_5 : decode prog_41_method_4_code 5 = .ok (.invokestatic 19, 3) := by decide +kernel
theorem d4_8 : decode prog_41_method_4_code 8 = .ok (.lstore_n 3, 1) := by decide +kernel
theorem d4_9 : decode prog_41_method_4_code 9 = .ok (.lload_n 3, 1) := by decide +kernel
theorem d4_10 : decode prog_41_method_4_code 10 = .ok (.aload_n 0, 1) := by decide +kernel
theorem d4_11 : decode prog_41_method_4_code 11 = .ok (.getfield 13, 3) := by decide +kernel
theorem d4_14 : decode prog_41_method_4_code 14 = .ok (.lload_n 1, 1) := by decide +kernel
theorem d4_15 : decode prog_41_method_4_code 15 = .ok (.aload_n 0, 1) := by decide +kernel
theorem d4_16 : decode prog_41_method_4_code 16 = .ok (.getfield 16, 3) := by decide +kernel
theorem d4_19 : decode prog_41_method_4_code 19 = .ok (.invokestatic 25, 3) := by decide +kernel
theorem d4_22 : decode prog_41_method_4_code 22 = .ok (.invokestatic 29, 3) := by decide +kernel
theorem d4_25 : decode prog_41_method_4_code 25 = .ok (.lreturn, 1) := by decide +kernel
theorem pd__JJJ_J : parseMethodDescriptor "(JJJ)J" = some ⟨[.long, .long, .long], some .long⟩ := by decide +kernel
theorem ef_rmBo1 (m : MethodId) (ao : Addr) : entryFrame m #[(.ref ao), (.long (1 : Int64))] 5 = mkF m 0 #[.val (.ref ao), .val (.long (1 : Int64)), .second, .unset, .unset] [] := by first | (simp [entryFrame, mkF, argsToLocals, Value.category]; done) | rfl
def Q_rmBo1 (Z : State) (ao : Addr) (uw : Int64) (ub : Int64) (uh : Int64) (h0 : Heap) (n0 : Nat) (v : Option Value) (h : Heap) (L : List Loc) : Prop := (v = some (.long (own_min ((1 : Int64) * uw) ((uh * (0 : Int64)) + ub)))) ∧ (Fr n0 L) ∧ (h = h0)
set_option maxRecDepth 65536 in
set_option maxHeartbeats 40000000 in
theorem rmBo1 (l : Launch) (Z : State) (a0 : Array Value) (hw : ∀ d ∈ tables_1, d.before a0 Z = true) (ws : List Jvm.Cond) (ao : Addr) (uw : Int64) (ub : Int64) (uh : Int64) (h0 : Heap) (n0 : Nat) (Z0 : n0 ≤ h0.size) (E0 : Exa Z h0 ao "com/example/termvault/termvault/FieldLengths$Tally") (Fw : Fld Z h0 ao "com/example/termvault/termvault/FieldLengths$Tally" "widths" "J" (.long uw)) (Fb : Fld Z h0 ao "com/example/termvault/termvault/FieldLengths$Tally" "holderBytes" "J" (.long ub)) (Fh : Fld Z h0 ao "com/example/termvault/termvault/FieldLengths$Tally" "holders" "J" (.long uh)) :
    MetFree l (⟨"com/example/termvault/termvault/FieldLengths$Tally", "bound", "(J)J"⟩ : MethodName) (head1 (Jvm.Cond.code (⟨"com/example/termvault/termvault/FieldLengths$Tally", "bound", "(J)J"⟩ : MethodName) prog_41_method_4_code 5 (some .long) :: ws) ({ frames := 5, cells := 0, slots := 0, locals := 76 } : Room)) (fun aA U => aA = #[(.ref ao), (.long (1 : Int64))] ∧ Z.Warmed39 U.vm ∧ U.heap = h0) (fun _ _ _ _ _ => True) (fun _ U o U' => ∃ v L, o = .returned v ∧ Q_rmBo1 Z ao uw ub uh h0 n0 v U'.heap L ∧ FrameEnd U o U' L ({ frames := 5, cells := 0, slots := 0, locals := 76 } : Room).cells ({ frames := 5, cells := 0, slots := 0, locals := 76 } : Room).slots) := by
  refine MetFree.of_bodySF (plainFor_of_name pn_com_example_termvault_termvault_FieldLengths_Tally) hisR ?_
  intro p e s m args below meth c s₁ Bd hml0 hP hK
  obtain ⟨rfl, hZ, hh⟩ := hP
  have hx := Bd.exec
  have hby := Bd.bytes
  have hml : c.maxLocals = 5 := hml0
  have hown : s.vm.findClass "com/example/termvault/termvault/FieldLengths$Tally" = some m.cls := findClass_of_methodNamed Bd.named
  have hnm := (name_of_methodNamed Bd.named Bd.method).1
  have hret := Bd.returns
  have hlk : meth.locks = false := BodyLoose.notSynchronized Bd
  have X0 : Stand p l e ({ frames := 5, cells := 0, slots := 0, locals := 76 } : Room) s m #[(.ref ao), (.long (1 : Int64))] below meth c s₁ [] 0 0 := Stand.of_body Bd
  have e0 : s₁.heap = h0 := by rw [← hh, Bd.state]; rfl
  have N0 := Fr.nil n0
  suffices hgo : Go p e below s ({ frames := 5, cells := 0, slots := 0, locals := 76 } : Room).cells ({ frames := 5, cells := 0, slots := 0, locals := 76 } : Room).slots (Q_rmBo1 Z ao uw ub uh h0 n0) s₁ (mkF m 0 #[.val (.ref ao), .val (.long (1 : Int64)), .second, .unset, .unset] []) from hgo.enter (ef_rmBo1 m ao)
  refine Go.step (fun _ k => XS.lloadN X0.here hx rfl (hb hby d4_0) rfl k) ?_
  show Go _ _ _ _ _ _ _ s₁ (mkF m 1 #[.val (.ref ao), .val (.long (1 : Int64)), .second, .unset, .unset] [(.long (1 : Int64))])
  refine Go.step (fun _ k => XS.aloadN X0.here hx rfl (hb hby d4_1) rfl rfl k) ?_
  show Go _ _ _ _ _ _ _ s₁ (mkF m 2 #[.val (.ref ao), .val (.long (1 : Int64)), .second, .unset, .unset] [(.ref ao), (.long (1 : Int64))])
  obtain ⟨T47, X47, e47, st47⟩ := getF X0 hx hZ hown (host := "") (Or.inl (hw _ (List.mem_of_getElem? (i := 15) rfl))) Via.refl e0 Fw (g := (mkF m 2 #[.val (.ref ao), .val (.long (1 : Int64)), .second, .unset, .unset] [(.ref ao), (.long (1 : Int64))])) rfl rfl (hb hby d4_2)
  refine Go.step st47 ?_
  show Go _ _ _ _ _ _ _ T47 (mkF m 5 #[.val (.ref ao), .val (.long (1 : Int64)), .second, .unset, .unset] [(.long uw), (.long (1 : Int64))])
  obtain ⟨_, _, ⟨T48, L48, k48, n48⟩, -, X48, ⟨Lc48, hQ48, l48, y48, z48⟩, st48⟩ := callSN X47 hx (y := (⟨"com/example/termvault/termvault/FieldLengths", "everyDocumentBytes", "(JJ)J"⟩ : MethodName)) hown (own_mvMN hZ (hw _ (List.mem_of_getElem? (i := 30) rfl))) (mvT hZ (hw _ (List.mem_of_getElem? (i := 31) rfl))) (mvT hZ (hw _ (List.mem_of_getElem? (i := 32) rfl))) (mvT hZ (hw _ (List.mem_of_getElem? (i := 33) rfl))) (by decide) (backOf (W := 0) (rmEv l Z a0 hw [] (1 : Int64) uw h0 n0 Z0 ) hZ (hw _ (List.mem_of_getElem? (i := 33) rfl)) (hw _ (List.mem_of_getElem? (i := 32) rfl)) (by decide) (by decide)) (g := (mkF m 5 #[.val (.ref ao), .val (.long (1 : Int64)), .second, .unset, .unset] [(.long uw), (.long (1 : Int64))])) rfl (by rw [hml]; rfl) (argsL := [(.long (1 : Int64)), (.long uw)]) (rest := []) (lenOf pd__JJ_J rfl) rfl (by show 2 * 0 + _ ≤ _; exact Nat.le_of_eq rfl) (hb hby d4_5) (fun _ _ => ⟨rfl, e47, (by decide : 0 + 0 ≤ _), (by decide : 0 + 0 ≤ _)⟩)
  dsimp only [Pt.U, Pt.locs, Pt.cells, Pt.slots] at X48 l48 y48 z48 st48 hQ48
  subst l48 y48 z48
  obtain ⟨h48, e48⟩ : ∃ h, T48.heap = h := ⟨_, rfl⟩
  rw [e48] at hQ48
  obtain ⟨rfl, Nq48, hs48⟩ := hQ48
  have N48 := Fr.app N0 Nq48
  rw [hs48] at e48
  refine Go.trans st48 ?_
  show Go _ _ _ _ _ _ _ T48 (mkF m 8 #[.val (.ref ao), .val (.long (1 : Int64)), .second, .unset, .unset] [(.long ((1 : Int64) * uw))])
  refine Go.step (fun _ k => XS.lstoreN X48.here hx rfl (hb hby d4_8) rfl (l' := #[.val (.ref ao), .val (.long (1 : Int64)), .second, .val (.long ((1 : Int64) * uw)), .second]) rfl k) ?_
  show Go _ _ _ _ _ _ _ T48 (mkF m 9 #[.val (.ref ao), .val (.long (1 : Int64)), .second, .val (.long ((1 : Int64) * uw)), .second] [])
  refine Go.step (fun _ k => XS.lloadN X48.here hx rfl (hb hby d4_9) rfl k) ?_
  show Go _ _ _ _ _ _ _ T48 (mkF m 10 #[.val (.ref ao), .val (.long (1 : Int64)), .second, .val (.long ((1 : Int64) * uw)), .second] [(.long ((1 : Int64) * uw))])
  refine Go.step (fun _ k => XS.aloadN X48.here hx rfl (hb hby d4_10) rfl rfl k) ?_
  show Go _ _ _ _ _ _ _ T48 (mkF m 11 #[.val (.ref ao), .val (.long (1 : Int64)), .second, .val (.long ((1 : Int64) * uw)), .second] [(.ref ao), (.long ((1 : Int64) * uw))])
  obtain ⟨T49, X49, e49, st49⟩ := getF X48 hx hZ hown (host := "") (Or.inl (hw _ (List.mem_of_getElem? (i := 19) rfl))) Via.refl e48 Fh (g := (mkF m 11 #[.val (.ref ao), .val (.long (1 : Int64)), .second, .val (.long ((1 : Int64) * uw)), .second] [(.ref ao), (.long ((1 : Int64) * uw))])) rfl rfl (hb hby d4_11)
  refine Go.step st49 ?_
  show Go _ _ _ _ _ _ _ T49 (mkF m 14 #[.val (.ref ao), .val (.long (1 : Int64)), .second, .val (.long ((1 : Int64) * uw)), .second] [(.long uh), (.long ((1 : Int64) * uw))])
  refine Go.step (fun _ k => XS.lloadN X49.here hx rfl (hb hby d4_14) rfl k) ?_
  show Go _ _ _ _ _ _ _ T49 (mkF m 15 #[.val (.ref ao), .val (.long (1 : Int64)), .second, .val (.long ((1 : Int64) * uw)), .second] [(.long (1 : Int64)), (.long uh), (.long ((1 : Int64) * uw))])
  refine Go.step (fun _ k => XS.aloadN X49.here hx rfl (hb hby d4_15) rfl rfl k) ?_
  show Go _ _ _ _ _ _ _ T49 (mkF m 16 #[.val (.ref ao), .val (.long (1 : Int64)), .second, .val (.long ((1 : Int64) * uw)), .second] [(.ref ao), (.long (1 : Int64)), (.long uh), (.long ((1 : Int64) * uw))])
  obtain ⟨T50, X50, e50, st50⟩ := getF X49 hx hZ hown (host := "") (Or.inl (hw _ (List.mem_of_getElem? (i := 17) rfl))) Via.refl e49 Fb (g := (mkF m 16 #[.val (.ref ao), .val (.long (1 : Int64)), .second, .val (.long ((1 : Int64) * uw)), .second] [(.ref ao), (.long (1 : Int64)), (.long uh), (.long ((1 : Int64) * uw))])) rfl rfl (hb hby d4_16)
  refine Go.step st50 ?_
  show Go _ _ _ _ _ _ _ T50 (mkF m 19 #[.val (.ref ao), .val (.long (1 : Int64)), .second, .val (.long ((1 : Int64) * uw)), .second] [(.long ub), (.long (1 : Int64)), (.long uh), (.long ((1 : Int64) * uw))])
  obtain ⟨_, _, ⟨T51, L51, k51, n51⟩, -, X51, ⟨Lc51, hQ51, l51, y51, z51⟩, st51⟩ := callSN X50 hx (y := (⟨"com/example/termvault/termvault/FieldLengths", "listingBytes", "(JJJ)J"⟩ : MethodName)) hown (own_mvMN hZ (hw _ (List.mem_of_getElem? (i := 34) rfl))) (mvT hZ (hw _ (List.mem_of_getElem? (i := 35) rfl))) (mvT hZ (hw _ (List.mem_of_getElem? (i := 32) rfl))) (mvT hZ (hw _ (List.mem_of_getElem? (i := 36) rfl))) (by decide) (backOf (W := 2) (rmNL1 l Z a0 hw [] uh ub h0 n0 Z0 ) hZ (hw _ (List.mem_of_getElem? (i := 36) rfl)) (hw _ (List.mem_of_getElem? (i := 32) rfl)) (by decide) (by decide)) (g := (mkF m 19 #[.val (.ref ao), .val (.long (1 : Int64)), .second, .val (.long ((1 : Int64) * uw)), .second] [(.long ub), (.long (1 : Int64)), (.long uh), (.long ((1 : Int64) * uw))])) rfl (by rw [hml]; rfl) (argsL := [(.long uh), (.long (1 : Int64)), (.long ub)]) (rest := [(.long ((1 : Int64) * uw))]) (lenOf pd__JJJ_J rfl) rfl (by show 2 * 0 + _ ≤ _; exact Nat.le_of_eq rfl) (hb hby d4_19) (fun _ _ => ⟨rfl, e50, (by decide : 0 + 0 ≤ _), (by decide : 0 + 0 ≤ _)⟩)
  dsimp only [Pt.U, Pt.locs, Pt.cells, Pt.slots] at X51 l51 y51 z51 st51 hQ51
  subst l51 y51 z51
  obtain ⟨h51, e51⟩ : ∃ h, T51.heap = h := ⟨_, rfl⟩
  rw [e51] at hQ51
  obtain ⟨rfl, Nq51, hs51⟩ := hQ51
  have N51 := Fr.app N48 Nq51
  rw [hs51] at e51
  refine Go.trans st51 ?_
  show Go _ _ _ _ _ _ _ T51 (mkF m 22 #[.val (.ref ao), .val (.long (1 : Int64)), .second, .val (.long ((1 : Int64) * uw)), .second] [(.long ((uh * (0 : Int64)) + ub)), (.long ((1 : Int64) * uw))])
  obtain ⟨_, _, ⟨T52, L52, k52, n52⟩, -, X52, ⟨Lc52, hQ52, l52, y52, z52⟩, st52⟩ := Jvm.LawKit.callS X51 hx (y := (⟨"java/lang/Math", "min", "(JJ)J"⟩ : MethodName)) hown (mvT hZ (hw _ (List.mem_of_getElem? (i := 56) rfl))) (mvT hZ (hw _ (List.mem_of_getElem? (i := 57) rfl))) (mvT hZ (hw _ (List.mem_of_getElem? (i := 42) rfl))) (mvT hZ (hw _ (List.mem_of_getElem? (i := 58) rfl))) (by decide) (backOf (W := 0) (rmMin l Z a0 hw [] ((1 : Int64) * uw) ((uh * (0 : Int64)) + ub) h0 n0 Z0 ) hZ (hw _ (List.mem_of_getElem? (i := 58) rfl)) (hw _ (List.mem_of_getElem? (i := 42) rfl)) (by decide) (by decide)) (g := (mkF m 22 #[.val (.ref ao), .val (.long (1 : Int64)), .second, .val (.long ((1 : Int64) * uw)), .second] [(.long ((uh * (0 : Int64)) + ub)), (.long ((1 : Int64) * uw))])) rfl (by rw [hml]; rfl) (argsL := [(.long ((1 : Int64) * uw)), (.long ((uh * (0 : Int64)) + ub))]) (rest := []) (lenOf pd__JJ_J rfl) rfl (by show 2 * 0 + _ ≤ _; exact Nat.le_of_eq rfl) (hb hby d4_22) (fun _ _ => ⟨rfl, e51, (by decide : 0 + 0 ≤ _), (by decide : 0 + 0 ≤ _)⟩)
  dsimp only [Pt.U, Pt.locs, Pt.cells, Pt.slots] at X52 l52 y52 z52 st52 hQ52
  subst l52 y52 z52
  obtain ⟨h52, e52⟩ : ∃ h, T52.heap = h := ⟨_, rfl⟩
  rw [e52] at hQ52
  obtain ⟨rfl, Nq52, hs52⟩ := hQ52
  have N52 := Fr.app N51 Nq52
  rw [hs52] at e52
  refine Go.step st52 ?_
  show Go _ _ _ _ _ _ _ T52 (mkF m 25 #[.val (.ref ao), .val (.long (1 : Int64)), .second, .val (.long ((1 : Int64) * uw)), .second] [(.long (own_min ((1 : Int64) * uw) ((uh * (0 : Int64)) + ub)))])
  exact Go.retJ X52 hx hret hlk (hb hby d4_25) e52 (by decide) (by decide) ⟨rfl, N52, rfl⟩
theorem ef_rmBo1099511627776 (m : MethodId) (ao : Addr) : entryFrame m #[(.ref ao), (.long (1099511627776 : Int64))] 5 = mkF m 0 #[.val (.ref ao), .val (.long (1099511627776 : Int64)), .second, .unset, .unset] [] := by first | (simp [entryFrame, mkF, argsToLocals, Value.category]; done) | rfl
def Q_rmBo1099511627776 (Z : State) (ao : Addr) (uw : Int64) (ub : Int64) (uh : Int64) (h0 : Heap) (n0 : Nat) (v : Option Value) (h : Heap) (L : List Loc) : Prop := (v = some (.long (own_min ((1099511627776 : Int64) * uw) ((uh * (5 : Int64)) + ub)))) ∧ (Fr n0 L) ∧ (h = h0)
set_option maxRecDepth 65536 in
set_option maxHeartbeats 40000000 in
theorem rmBo1099511627776 (l : Launch) (Z : State) (a0 : Array Value) (hw : ∀ d ∈ tables_1, d.before a0 Z = true) (ws : List Jvm.Cond) (ao : Addr) (uw : Int64) (ub : Int64) (uh : Int64) (h0 : Heap) (n0 : Nat) (Z0 : n0 ≤ h0.size) (E0 : Exa Z h0 ao "com/example/termvault/termvault/FieldLengths$Tally") (Fw : Fld Z h0 ao "com/example/termvault/termvault/FieldLengths$Tally" "widths" "J" (.long uw)) (Fb : Fld Z h0 ao "com/example/termvault/termvault/FieldLengths$Tally" "holderBytes" "J" (.long ub)) (Fh : Fld Z h0 ao "com/example/termvault/termvault/FieldLengths$Tally" "holders" "J" (.long uh)) :
    MetFree l (⟨"com/example/termvault/termvault/FieldLengths$Tally", "bound", "(J)J"⟩ : MethodName) (head1 (Jvm.Cond.code (⟨"com/example/termvault/termvault/FieldLengths$Tally", "bound", "(J)J"⟩ : MethodName) prog_41_method_4_code 5 (some .long) :: ws) ({ frames := 5, cells := 0, slots := 0, locals := 75 } : Room)) (fun aA U => aA = #[(.ref ao), (.long (1099511627776 : Int64))] ∧ Z.Warmed39 U.vm ∧ U.heap = h0) (fun _ _ _ _ _ => True) (fun _ U o U' => ∃ v L, o = .returned v ∧ Q_rmBo1099511627776 Z ao uw ub uh h0 n0 v U'.heap L ∧ FrameEnd U o U' L ({ frames := 5, cells := 0, slots := 0, locals := 75 } : Room).cells ({ frames := 5, cells := 0, slots := 0, locals := 75 } : Room).slots) := by
  refine MetFree.of_bodySF (plainFor_of_name pn_com_example_termvault_termvault_FieldLengths_Tally) hisR ?_
  intro p e s m args below meth c s₁ Bd hml0 hP hK
  obtain ⟨rfl, hZ, hh⟩ := hP
  have hx := Bd.exec
  have hby := Bd.bytes
  have hml : c.maxLocals = 5 := hml0
  have hown : s.vm.findClass "com/example/termvault/termvault/FieldLengths$Tally" = some m.cls := findClass_of_methodNamed Bd.named
  have hnm := (name_of_methodNamed Bd.named Bd.method).1
  have hret := Bd.returns
  have hlk : meth.locks = false := BodyLoose.notSynchronized Bd
  have X0 : Stand p l e ({ frames := 5, cells := 0, slots := 0, locals := 75 } : Room) s m #[(.ref ao), (.long (1099511627776 : Int64))] below meth c s₁ [] 0 0 := Stand.of_body Bd
  have e0 : s₁.heap = h0 := by rw [← hh, Bd.state]; rfl
  have N0 := Fr.nil n0
  suffices hgo : Go p e below s ({ frames := 5, cells := 0, slots := 0, locals := 75 } : Room).cells ({ frames := 5, cells := 0, slots := 0, locals := 75 } : Room).slots (Q_rmBo1099511627776 Z ao uw ub uh h0 n0) s₁ (mkF m 0 #[.val (.ref ao), .val (.long (1099511627776 : Int64)), .second, .unset, .unset] []) from hgo.enter (ef_rmBo1099511627776 m ao)
  refine Go.step (fun _ k => XS.lloadN X0.here hx rfl (hb hby d4_0) rfl k) ?_
  show Go _ _ _ _ _ _ _ s₁ (mkF m 1 #[.val (.ref ao), .val (.long (1099511627776 : Int64)), .second, .unset, .unset] [(.long (1099511627776 : Int64))])
  refine Go.step (fun _ k => XS.aloadN X0.here hx rfl (hb hby d4_1) rfl rfl k) ?_
  show Go _ _ _ _ _ _ _ s₁ (mkF m 2 #[.val (.ref ao), .val (.long (1099511627776 : Int64)), .second, .unset, .unset] [(.ref ao), (.long (1099511627776 : Int64))])
  obtain ⟨T53, X53, e53, st53⟩ := getF X0 hx hZ hown (host := "") (Or.inl (hw _ (List.mem_of_getElem? (i := 15) rfl))) Via.refl e0 Fw (g := (mkF m 2 #[.val (.ref ao), .val (.long (1099511627776 : Int64)), .second, .unset, .unset] [(.ref ao), (.long (1099511627776 : Int64))])) rfl rfl (hb hby d4_2)
  refine Go.step st53 ?_
  show Go _ _ _ _ _ _ _ T53 (mkF m 5 #[.val (.ref ao), .val (.long (1099511627776 : Int64)), .second, .unset, .unset] [(.long uw), (.long (1099511627776 : Int64))])
  obtain ⟨_, _, ⟨T54, L54, k54, n54⟩, -, X54, ⟨Lc54, hQ54, l54, y54, z54⟩, st54⟩ := callSN X53 hx (y := (⟨"com/example/termvault/termvault/FieldLengths", "everyDocumentBytes", "(JJ)J"⟩ : MethodName)) hown (own_mvMN hZ (hw _ (List.mem_of_getElem? (i := 30) rfl))) (mvT hZ (hw _ (List.mem_of_getElem? (i := 31) rfl))) (mvT hZ (hw _ (List.mem_of_getElem? (i := 32) rfl))) (mvT hZ (hw _ (List.mem_of_getElem? (i := 33) rfl))) (by decide) (backOf (W := 0) (rmEv l Z a0 hw [] (1099511627776 : Int64) uw h0 n0 Z0 ) hZ (hw _ (List.mem_of_getElem? (i := 33) rfl)) (hw _ (List.mem_of_getElem? (i := 32) rfl)) (by decide) (by decide)) (g := (mkF m 5 #[.val (.ref ao), .val (.long (1099511627776 : Int64)), .second, .unset, .unset] [(.long uw), (.long (1099511627776 : Int64))])) rfl (by rw [hml]; rfl) (argsL := [(.long (1099511627776 : Int64)), (.long uw)]) (rest := []) (lenOf pd__JJ_J rfl) rfl (by show 2 * 0 + _ ≤ _; exact Nat.le_of_eq rfl) (hb hby d4_5) (fun _ _ => ⟨rfl, e53, (by decide : 0 + 0 ≤ _), (by decide : 0 + 0 ≤ _)⟩)
  dsimp only [Pt.U, Pt.locs, Pt.cells, Pt.slots] at X54 l54 y54 z54 st54 hQ54
  subst l54 y54 z54
  obtain ⟨h54, e54⟩ : ∃ h, T54.heap = h := ⟨_, rfl⟩
  rw [e54] at hQ54
  obtain ⟨rfl, Nq54, hs54⟩ := hQ54
  have N54 := Fr.app N0 Nq54
  rw [hs54] at e54
  refine Go.trans st54 ?_
  show Go _ _ _ _ _ _ _ T54 (mkF m 8 #[.val (.ref ao), .val (.long (1099511627776 : Int64)), .second, .unset, .unset] [(.long ((1099511627776 : Int64) * uw))])
  refine Go.step (fun _ k => XS.lstoreN X54.here hx rfl (hb hby d4_8) rfl (l' := #[.val (.ref ao), .val (.long (1099511627776 : Int64)), .second, .val (.long ((1099511627776 : Int64) * uw)), .second]) rfl k) ?_
  show Go _ _ _ _ _ _ _ T54 (mkF m 9 #[.val (.ref ao), .val (.long (1099511627776 : Int64)), .second, .val (.long ((1099511627776 : Int64) * uw)), .second] [])
  refine Go.step (fun _ k => XS.lloadN X54.here hx rfl (hb hby d4_9) rfl k) ?_
  show Go _ _ _ _ _ _ _ T54 (mkF m 10 #[.val (.ref ao), .val (.long (1099511627776 : Int64)), .second, .val (.long ((1099511627776 : Int64) * uw)), .second] [(.long ((1099511627776 : Int64) * uw))])
  refine Go.step (fun _ k => XS.aloadN X54.here hx rfl (hb hby d4_10) rfl rfl k) ?_
  show Go _ _ _ _ _ _ _ T54 (mkF m 11 #[.val (.ref ao), .val (.long (1099511627776 : Int64)), .second, .val (.long ((1099511627776 : Int64) * uw)), .second] [(.ref ao), (.long ((1099511627776 : Int64) * uw))])
  obtain ⟨T55, X55, e55, st55⟩ := getF X54 hx hZ hown (host := "") (Or.inl (hw _ (List.mem_of_getElem? (i := 19) rfl))) Via.refl e54 Fh (g := (mkF m 11 #[.val (.ref ao), .val (.long (1099511627776 : Int64)), .second, .val (.long ((1099511627776 : Int64) * uw)), .second] [(.ref ao), (.long ((1099511627776 : Int64) * uw))])) rfl rfl (hb hby d4_11)
  refine Go.step st55 ?_
  show Go _ _ _ _ _ _ _ T55 (mkF m 14 #[.val (.ref ao), .val (.long (1099511627776 : Int64)), .second, .val (.long ((1099511627776 : Int64) * uw)), .second] [(.long uh), (.long ((1099511627776 : Int64) * uw))])
  refine Go.step (fun _ k => XS.lloadN X55.here hx rfl (hb hby d4_14) rfl k) ?_
  show Go _ _ _ _ _ _ _ T55 (mkF m 15 #[.val (.ref ao), .val (.long (1099511627776 : Int64)), .second, .val (.long ((1099511627776 : Int64) * uw)), .second] [(.long (1099511627776 : Int64)), (.long uh), (.long ((1099511627776 : Int64) * uw))])
  refine Go.step (fun _ k => XS.aloadN X55.here hx rfl (hb hby d4_15) rfl rfl k) ?_
  show Go _ _ _ _ _ _ _ T55 (mkF m 16 #[.val (.ref ao), .val (.long (1099511627776 : Int64)), .second, .val (.long ((1099511627776 : Int64) * uw)), .second] [(.ref ao), (.long (1099511627776 : Int64)), (.long uh), (.long ((1099511627776 : Int64) * uw))])
  obtain ⟨T56, X56, e56, st56⟩ := getF X55 hx hZ hown (host := "") (Or.inl (hw _ (List.mem_of_getElem? (i := 17) rfl))) Via.refl e55 Fb (g := (mkF m 16 #[.val (.ref ao), .val (.long (1099511627776 : Int64)), .second, .val (.long ((1099511627776 : Int64) * uw)), .second] [(.ref ao), (.long (1099511627776 : Int64)), (.long uh), (.long ((1099511627776 : Int64) * uw))])) rfl rfl (hb hby d4_16)
  refine Go.step st56 ?_
  show Go _ _ _ _ _ _ _ T56 (mkF m 19 #[.val (.ref ao), .val (.long (1099511627776 : Int64)), .second, .val (.long ((1099511627776 : Int64) * uw)), .second] [(.long ub), (.long (1099511627776 : Int64)), (.long uh), (.long ((1099511627776 : Int64) * uw))])
  obtain ⟨_, _, ⟨T57, L57, k57, n57⟩, -, X57, ⟨Lc57, hQ57, l57, y57, z57⟩, st57⟩ := callSN X56 hx (y := (⟨"com/example/termvault/termvault/FieldLengths", "listingBytes", "(JJJ)J"⟩ : MethodName)) hown (own_mvMN hZ (hw _ (List.mem_of_getElem? (i := 34) rfl))) (mvT hZ (hw _ (List.mem_of_getElem? (i := 35) rfl))) (mvT hZ (hw _ (List.mem_of_getElem? (i := 32) rfl))) (mvT hZ (hw _ (List.mem_of_getElem? (i := 36) rfl))) (by decide) (backOf (W := 2) (rmNL1099511627776 l Z a0 hw [] uh ub h0 n0 Z0 ) hZ (hw _ (List.mem_of_getElem? (i := 36) rfl)) (hw _ (List.mem_of_getElem? (i := 32) rfl)) (by decide) (by decide)) (g := (mkF m 19 #[.val (.ref ao), .val (.long (1099511627776 : Int64)), .second, .val (.long ((1099511627776 : Int64) * uw)), .second] [(.long ub), (.long (1099511627776 : Int64)), (.long uh), (.long ((1099511627776 : Int64) * uw))])) rfl (by rw [hml]; rfl) (argsL := [(.long uh), (.long (1099511627776 : Int64)), (.long ub)]) (rest := [(.long ((1099511627776 : Int64) * uw))]) (lenOf pd__JJJ_J rfl) rfl (by show 2 * 0 + _ ≤ _; exact Nat.le_of_eq rfl) (hb hby d4_19) (fun _ _ => ⟨rfl, e56, (by decide : 0 + 0 ≤ _), (by decide : 0 + 0 ≤ _)⟩)
  dsimp only [Pt.U, Pt.locs, Pt.cells, Pt.slots] at X57 l57 y57 z57 st57 hQ57
  subst l57 y57 z57
  obtain ⟨h57, e57⟩ : ∃ h, T57.heap = h := ⟨_, rfl⟩
  rw [e57] at hQ57
  obtain ⟨rfl, Nq57, hs57⟩ := hQ57
  have N57 := Fr.app N54 Nq57
  rw [hs57] at e57
  refine Go.trans st57 ?_
  show Go _ _ _ _ _ _ _ T57 (mkF m 22 #[.val (.ref ao), .val (.long (1099511627776 : Int64)), .second, .val (.long ((1099511627776 : Int64) * uw)), .second] [(.long ((uh * (5 : Int64)) + ub)), (.long ((1099511627776 : Int64) * uw))])
  obtain ⟨_, _, ⟨T58, L58, k58, n58⟩, -, X58, ⟨Lc58, hQ58, l58, y58, z58⟩, st58⟩ := Jvm.LawKit.callS X57 hx (y := (⟨"java/lang/Math", "min", "(JJ)J"⟩ : MethodName)) hown (mvT hZ (hw _ (List.mem_of_getElem? (i := 56) rfl))) (mvT hZ (hw _ (List.mem_of_getElem? (i := 57) rfl))) (mvT hZ (hw _ (List.mem_of_getElem? (i := 42) rfl))) (mvT hZ (hw _ (List.mem_of_getElem? (i := 58) rfl))) (by decide) (backOf (W := 0) (rmMin l Z a0 hw [] ((1099511627776 : Int64) * uw) ((uh * (5 : Int64)) + ub) h0 n0 Z0 ) hZ (hw _ (List.mem_of_getElem? (i := 58) rfl)) (hw _ (List.mem_of_getElem? (i := 42) rfl)) (by decide) (by decide)) (g := (mkF m 22 #[.val (.ref ao), .val (.long (1099511627776 : Int64)), .second, .val (.long ((1099511627776 : Int64) * uw)), .second] [(.long ((uh * (5 : Int64)) + ub)), (.long ((1099511627776 : Int64) * uw))])) rfl (by rw [hml]; rfl) (argsL := [(.long ((1099511627776 : Int64) * uw)), (.long ((uh * (5 : Int64)) + ub))]) (rest := []) (lenOf pd__JJ_J rfl) rfl (by show 2 * 0 + _ ≤ _; exact Nat.le_of_eq rfl) (hb hby d4_22) (fun _ _ => ⟨rfl, e57, (by decide : 0 + 0 ≤ _), (by decide : 0 + 0 ≤ _)⟩)
  dsimp only [Pt.U, Pt.locs, Pt.cells, Pt.slots] at X58 l58 y58 z58 st58 hQ58
  subst l58 y58 z58
  obtain ⟨h58, e58⟩ : ∃ h, T58.heap = h := ⟨_, rfl⟩
  rw [e58] at hQ58
  obtain ⟨rfl, Nq58, hs58⟩ := hQ58
  have N58 := Fr.app N57 Nq58
  rw [hs58] at e58
  refine Go.step st58 ?_
  show Go _ _ _ _ _ _ _ T58 (mkF m 25 #[.val (.ref ao), .val (.long (1099511627776 : Int64)), .second, .val (.long ((1099511627776 : Int64) * uw)), .second] [(.long (own_min ((1099511627776 : Int64) * uw) ((uh * (5 : Int64)) + ub)))])
  exact Go.retJ X58 hx hret hlk (hb hby d4_25) e58 (by decide) (by decide) ⟨rfl, N58, rfl⟩
theorem ef_rmBo281474976710656 (m : MethodId) (ao : Addr) : entryFrame m #[(.ref ao), (.long (281474976710656 : Int64))] 5 = mkF m 0 #[.val (.ref ao), .val (.long (281474976710656 : Int64)), .second, .unset, .unset] [] := by first | (simp [entryFrame, mkF, argsToLocals, Value.category]; done) | rfl
def Q_rmBo281474976710656 (Z : State) (ao : Addr) (uw : Int64) (ub : Int64) (uh : Int64) (h0 : Heap) (n0 : Nat) (v : Option Value) (h : Heap) (L : List Loc) : Prop := (v = some (.long (own_min ((281474976710656 : Int64) * uw) ((uh * (6 : Int64)) + ub)))) ∧ (Fr n0 L) ∧ (h = h0)
set_option maxRecDepth 65536 in
set_option maxHeartbeats 40000000 in
theorem rmBo281474976710656 (l : Launch) (Z : State) (a0 : Array Value) (hw : ∀ d ∈ tables_1, d.before a0 Z = true) (ws : List Jvm.Cond) (ao : Addr) (uw : Int64) (ub : Int64) (uh : Int64) (h0 : Heap) (n0 : Nat) (Z0 : n0 ≤ h0.size) (E0 : Exa Z h0 ao "com/example/termvault/termvault/FieldLengths$Tally") (Fw : Fld Z h0 ao "com/example/termvault/termvault/FieldLengths$Tally" "widths" "J" (.long uw)) (Fb : Fld Z h0 ao "com/example/termvault/termvault/FieldLengths$Tally" "holderBytes" "J" (.long ub)) (Fh : Fld Z h0 ao "com/example/termvault/termvault/FieldLengths$Tally" "holders" "J" (.long uh)) :
    MetFree l (⟨"com/example/termvault/termvault/FieldLengths$Tally", "bound", "(J)J"⟩ : MethodName) (head1 (Jvm.Cond.code (⟨"com/example/termvault/termvault/FieldLengths$Tally", "bound", "(J)J"⟩ : MethodName) prog_41_method_4_code 5 (some .long) :: ws) ({ frames := 5, cells := 0, slots := 0, locals := 75 } : Room)) (fun aA U => aA = #[(.ref ao), (.long (281474976710656 : Int64))] ∧ Z.Warmed39 U.vm ∧ U.heap = h0) (fun _ _ _ _ _ => True) (fun _ U o U' => ∃ v L, o = .returned v ∧ Q_rmBo281474976710656 Z ao uw ub uh h0 n0 v U'.heap L ∧ FrameEnd U o U' L ({ frames := 5, cells := 0, slots := 0, locals := 75 } : Room).cells ({ frames := 5, cells := 0, slots := 0, locals := 75 } : Room).slots) := by
  refine MetFree.of_bodySF (plainFor_of_name pn_com_example_termvault_termvault_FieldLengths_Tally) hisR ?_
  intro p e s m args below meth c s₁ Bd hml0 hP hK
  obtain ⟨rfl, hZ, hh⟩ := hP
  have hx := Bd.exec
  have hby := Bd.bytes
  have hml : c.maxLocals = 5 := hml0
  have hown : s.vm.findClass "com/example/termvault/termvault/FieldLengths$Tally" = some m.cls := findClass_of_methodNamed Bd.named
  have hnm := (name_of_methodNamed Bd.named Bd.method).1
  have hret := Bd.returns
  have hlk : meth.locks = false := BodyLoose.notSynchronized Bd
  have X0 : Stand p l e ({ frames := 5, cells := 0, slots := 0, locals := 75 } : Room) s m #[(.ref ao), (.long (281474976710656 : Int64))] below meth c s₁ [] 0 0 := Stand.of_body Bd
  have e0 : s₁.heap = h0 := by rw [← hh, Bd.state]; rfl
  have N0 := Fr.nil n0
  suffices hgo : Go p e below s ({ frames := 5, cells := 0, slots := 0, locals := 75 } : Room).cells ({ frames := 5, cells := 0, slots := 0, locals := 75 } : Room).slots (Q_rmBo281474976710656 Z ao uw ub uh h0 n0) s₁ (mkF m 0 #[.val (.ref ao), .val (.long (281474976710656 : Int64)), .second, .unset, .unset] []) from hgo.enter (ef_rmBo281474976710656 m ao)
  refine Go.step (fun _ k => XS.lloadN X0.here hx rfl (hb hby d4_0) rfl k) ?_
  show Go _ _ _ _ _ _ _ s₁ (mkF m 1 #[.val (.ref ao), .val (.long (281474976710656 : Int64)), .second, .unset, .unset] [(.long (281474976710656 : Int64))])
  refine Go.step (fun _ k => XS.aloadN X0.here hx rfl (hb hby d4_1) rfl rfl k) ?_
  show Go _ _ _ _ _ _ _ s₁ (mkF m 2 #[.val (.ref ao), .val (.long (281474976710656 : Int64)), .second, .unset, .unset] [(.ref ao), (.long (281474976710656 : Int64))])
  obtain ⟨T59, X59, e59, st59⟩ := getF X0 hx hZ hown (host := "") (Or.inl (hw _ (List.mem_of_getElem? (i := 15) rfl))) Via.refl e0 Fw (g := (mkF m 2 #[.val (.ref ao), .val (.long (281474976710656 : Int64)), .second, .unset, .unset] [(.ref ao), (.long (281474976710656 : Int64))])) rfl rfl (hb hby d4_2)
  refine Go.step st59 ?_
  show Go _ _ _ _ _ _ _ T59 (mkF m 5 #[.val (.ref ao), .val (.long (281474976710656 : Int64)), .second, .unset, .unset] [(.long uw), (.long (281474976710656 : Int64))])
  obtain ⟨_, _, ⟨T60, L60, k60, n60⟩, -, X60, ⟨Lc60, hQ60, l60, y60, z60⟩, st60⟩ := callSN X59 hx (y := (⟨"com/example/termvault/termvault/FieldLengths", "everyDocumentBytes", "(JJ)J"⟩ : MethodName)) hown (own_mvMN hZ (hw _ (List.mem_of_getElem? (i := 30) rfl))) (mvT hZ (hw _ (List.mem_of_getElem? (i := 31) rfl))) (mvT hZ (hw _ (List.mem_of_getElem? (i := 32) rfl))) (mvT hZ (hw _ (List.mem_of_getElem? (i := 33) rfl))) (by decide) (backOf (W := 0) (rmEv l Z a0 hw [] (281474976710656 : Int64) uw h0 n0 Z0 ) hZ (hw _ (List.mem_of_getElem? (i := 33) rfl)) (hw _ (List.mem_of_getElem? (i := 32) rfl)) (by decide) (by decide)) (g := (mkF m 5 #[.val (.ref ao), .val (.long (281474976710656 : Int64)), .second, .unset, .unset] [(.long uw), (.long (281474976710656 : Int64))])) rfl (by rw [hml]; rfl) (argsL := [(.long (281474976710656 : Int64)), (.long uw)]) (rest := []) (lenOf pd__JJ_J rfl) rfl (by show 2 * 0 + _ ≤ _; exact Nat.le_of_eq rfl) (hb hby d4_5) (fun _ _ => ⟨rfl, e59, (by decide : 0 + 0 ≤ _), (by decide : 0 + 0 ≤ _)⟩)
  dsimp only [Pt.U, Pt.locs, Pt.cells, Pt.slots] at X60 l60 y60 z60 st60 hQ60
  subst l60 y60 z60
  obtain ⟨h60, e60⟩ : ∃ h, T60.heap = h := ⟨_, rfl⟩
  rw [e60] at hQ60
  obtain ⟨rfl, Nq60, hs60⟩ := hQ60
  have N60 := Fr.app N0 Nq60
  rw [hs60] at e60
  refine Go.trans st60 ?_
  show Go _ _ _ _ _ _ _ T60 (mkF m 8 #[.val (.ref ao), .val (.long (281474976710656 : Int64)), .second, .unset, .unset] [(.long ((281474976710656 : Int64) * uw))])
  refine Go.step (fun _ k => XS.lstoreN X60.here hx rfl (hb hby d4_8) rfl (l' := #[.val (.ref ao), .val (.long (281474976710656 : Int64)), .second, .val (.long ((281474976710656 : Int64) * uw)), .second]) rfl k) ?_
  show Go _ _ _ _ _ _ _ T60 (mkF m 9 #[.val (.ref ao), .val (.long (281474976710656 : Int64)), .second, .val (.long ((281474976710656 : Int64) * uw)), .second] [])
  refine Go.step (fun _ k => XS.lloadN X60.here hx rfl (hb hby d4_9) rfl k) ?_
  show Go _ _ _ _ _ _ _ T60 (mkF m 10 #[.val (.ref ao), .val (.long (281474976710656 : Int64)), .second, .val (.long ((281474976710656 : Int64) * uw)), .second] [(.long ((281474976710656 : Int64) * uw))])
  refine Go.step (fun _ k => XS.aloadN X60.here hx rfl (hb hby d4_10) rfl rfl k) ?_
  show Go _ _ _ _ _ _ _ T60 (mkF m 11 #[.val (.ref ao), .val (.long (281474976710656 : Int64)), .second, .val (.long ((281474976710656 : Int64) * uw)), .second] [(.ref ao), (.long ((281474976710656 : Int64) * uw))])
  obtain ⟨T61, X61, e61, st61⟩ := getF X60 hx hZ hown (host := "") (Or.inl (hw _ (List.mem_of_getElem? (i := 19) rfl))) Via.refl e60 Fh (g := (mkF m 11 #[.val (.ref ao), .val (.long (281474976710656 : Int64)), .second, .val (.long ((281474976710656 : Int64) * uw)), .second] [(.ref ao), (.long ((281474976710656 : Int64) * uw))])) rfl rfl (hb hby d4_11)
  refine Go.step st61 ?_
  show Go _ _ _ _ _ _ _ T61 (mkF m 14 #[.val (.ref ao), .val (.long (281474976710656 : Int64)), .second, .val (.long ((281474976710656 : Int64) * uw)), .second] [(.long uh), (.long ((281474976710656 : Int64) * uw))])
  refine Go.step (fun _ k => XS.lloadN X61.here hx rfl (hb hby d4_14) rfl k) ?_
  show Go _ _ _ _ _ _ _ T61 (mkF m 15 #[.val (.ref ao), .val (.long (281474976710656 : Int64)), .second, .val (.long ((281474976710656 : Int64) * uw)), .second] [(.long (281474976710656 : Int64)), (.long uh), (.long ((281474976710656 : Int64) * uw))])
  refine Go.step (fun _ k => XS.aloadN X61.here hx rfl (hb hby d4_15) rfl rfl k) ?_
  show Go _ _ _ _ _ _ _ T61 (mkF m 16 #[.val (.ref ao), .val (.long (281474976710656 : Int64)), .second, .val (.long ((281474976710656 : Int64) * uw)), .second] [(.ref ao), (.long (281474976710656 : Int64)), (.long uh), (.long ((281474976710656 : Int64) * uw))])
  obtain ⟨T62, X62, e62, st62⟩ := getF X61 hx hZ hown (host := "") (Or.inl (hw _ (List.mem_of_getElem? (i := 17) rfl))) Via.refl e61 Fb (g := (mkF m 16 #[.val (.ref ao), .val (.long (281474976710656 : Int64)), .second, .val (.long ((281474976710656 : Int64) * uw)), .second] [(.ref ao), (.long (281474976710656 : Int64)), (.long uh), (.long ((281474976710656 : Int64) * uw))])) rfl rfl (hb hby d4_16)
  refine Go.step st62 ?_
  show Go _ _ _ _ _ _ _ T62 (mkF m 19 #[.val (.ref ao), .val (.long (281474976710656 : Int64)), .second, .val (.long ((281474976710656 : Int64) * uw)), .second] [(.long ub), (.long (281474976710656 : Int64)), (.long uh), (.long ((281474976710656 : Int64) * uw))])
  obtain ⟨_, _, ⟨T63, L63, k63, n63⟩, -, X63, ⟨Lc63, hQ63, l63, y63, z63⟩, st63⟩ := callSN X62 hx (y := (⟨"com/example/termvault/termvault/FieldLengths", "listingBytes", "(JJJ)J"⟩ : MethodName)) hown (own_mvMN hZ (hw _ (List.mem_of_getElem? (i := 34) rfl))) (mvT hZ (hw _ (List.mem_of_getElem? (i := 35) rfl))) (mvT hZ (hw _ (List.mem_of_getElem? (i := 32) rfl))) (mvT hZ (hw _ (List.mem_of_getElem? (i := 36) rfl))) (by decide) (backOf (W := 2) (rmNL281474976710656 l Z a0 hw [] uh ub h0 n0 Z0 ) hZ (hw _ (List.mem_of_getElem? (i := 36) rfl)) (hw _ (List.mem_of_getElem? (i := 32) rfl)) (by decide) (by decide)) (g := (mkF m 19 #[.val (.ref ao), .val (.long (281474976710656 : Int64)), .second, .val (.long ((281474976710656 : Int64) * uw)), .second] [(.long ub), (.long (281474976710656 : Int64)), (.long uh), (.long ((281474976710656 : Int64) * uw))])) rfl (by rw [hml]; rfl) (argsL := [(.long uh), (.long (281474976710656 : Int64)), (.long ub)]) (rest := [(.long ((281474976710656 : Int64) * uw))]) (lenOf pd__JJJ_J rfl) rfl (by show 2 * 0 + _ ≤ _; exact Nat.le_of_eq rfl) (hb hby d4_19) (fun _ _ => ⟨rfl, e62, (by decide : 0 + 0 ≤ _), (by decide : 0 + 0 ≤ _)⟩)
  dsimp only [Pt.U, Pt.locs, Pt.cells, Pt.slots] at X63 l63 y63 z63 st63 hQ63
  subst l63 y63 z63
  obtain ⟨h63, e63⟩ : ∃ h, T63.heap = h := ⟨_, rfl⟩
  rw [e63] at hQ63
  obtain ⟨rfl, Nq63, hs63⟩ := hQ63
  have N63 := Fr.app N60 Nq63
  rw [hs63] at e63
  refine Go.trans st63 ?_
  show Go _ _ _ _ _ _ _ T63 (mkF m 22 #[.val (.ref ao), .val (.long (281474976710656 : Int64)), .second, .val (.long ((281474976710656 : Int64) * uw)), .second] [(.long ((uh * (6 : Int64)) + ub)), (.long ((281474976710656 : Int64) * uw))])
  obtain ⟨_, _, ⟨T64, L64, k64, n64⟩, -, X64, ⟨Lc64, hQ64, l64, y64, z64⟩, st64⟩ := Jvm.LawKit.callS X63 hx (y := (⟨"java/lang/Math", "min", "(JJ)J"⟩ : MethodName)) hown (mvT hZ (hw _ (List.mem_of_getElem? (i := 56) rfl))) (mvT hZ (hw _ (List.mem_of_getElem? (i := 57) rfl))) (mvT hZ (hw _ (List.mem_of_getElem? (i := 42) rfl))) (mvT hZ (hw _ (List.mem_of_getElem? (i := 58) rfl))) (by decide) (backOf (W := 0) (rmMin l Z a0 hw [] ((281474976710656 : Int64) * uw) ((uh * (6 : Int64)) + ub) h0 n0 Z0 ) hZ (hw _ (List.mem_of_getElem? (i := 58) rfl)) (hw _ (List.mem_of_getElem? (i := 42) rfl)) (by decide) (by decide)) (g := (mkF m 22 #[.val (.ref ao), .val (.long (281474976710656 : Int64)), .second, .val (.long ((281474976710656 : Int64) * uw)), .second] [(.long ((uh * (6 : Int64)) + ub)), (.long ((281474976710656 : Int64) * uw))])) rfl (by rw [hml]; rfl) (argsL := [(.long ((281474976710656 : Int64) * uw)), (.long ((uh * (6 : Int64)) + ub))]) (rest := []) (lenOf pd__JJ_J rfl) rfl (by show 2 * 0 + _ ≤ _; exact Nat.le_of_eq rfl) (hb hby d4_22) (fun _ _ => ⟨rfl, e63, (by decide : 0 + 0 ≤ _), (by decide : 0 + 0 ≤ _)⟩)
  dsimp only [Pt.U, Pt.locs, Pt.cells, Pt.slots] at X64 l64 y64 z64 st64 hQ64
  subst l64 y64 z64
  obtain ⟨h64, e64⟩ : ∃ h, T64.heap = h := ⟨_, rfl⟩
  rw [e64] at hQ64
  obtain ⟨rfl, Nq64, hs64⟩ := hQ64
  have N64 := Fr.app N63 Nq64
  rw [hs64] at e64
  refine Go.step st64 ?_
  show Go _ _ _ _ _ _ _ T64 (mkF m 25 #[.val (.ref ao), .val (.long (281474976710656 : Int64)), .second, .val (.long ((281474976710656 : Int64) * uw)), .second] [(.long (own_min ((281474976710656 : Int64) * uw) ((uh * (6 : Int64)) + ub)))])
  exact Go.retJ X64 hx hret hlk (hb hby d4_25) e64 (by decide) (by decide) ⟨rfl, N64, rfl⟩
theorem own_sub {a b : Int32} (ha : 0 ≤ a.toInt ∧ a.toInt < 9) (hb : 0 ≤ b.toInt ∧ b.toInt < 9) : (a - b).toInt64 = a.toInt64 - b.toInt64 := by
  have := c_isub a b; have := c_i2l (a - b); have := c_i2l a; have := c_i2l b; have := c_lsub a.toInt64 b.toInt64; have := rng32 (a - b); have := rng64 (a.toInt64 - b.toInt64)
  rw [← Int64.toInt_inj]; omega
theorem own_w (g g2 wb wa wc : Int64) : ((((0 + (g - 0)) + (wa - wb)) + (g2 - g)) + (wc - wa)) = (g2 + wc) - wb := by grind
theorem own_hb (h g g2 wb wa wc : Int64) : ((((0 + (((0 + 1) * g) - (0 * 0))) + (((h + 1) * wa) - (h * wb))) + (((1 + 1) * g2) - (1 * g))) + ((((h + 1) + 1) * wc) - ((h + 1) * wa))) = ((2 * g2) + ((h + 2) * wc)) - (h * wb) := by grind
theorem pd__JII_V : parseMethodDescriptor "(JII)V" = some ⟨[.long, .int, .int], none⟩ := by decide +kernel
theorem pd__J_J : parseMethodDescriptor "(J)J" = some ⟨[.long], some .long⟩ := by decide +kernel
theorem pn_com_example_termvault_termvault_TallyAddPinLaw : plainName "com/example/termvault/termvault/TallyAddPinLaw" = true := by first | (simp [plainName, overriddenIn]; done) | decide +kernel
theorem ef_rm0 (m : MethodId) (ia : Int32) (ib : Int32) (ic : Int32) (id : Int32) (ie : Int32) (jh : Int64) : entryFrame m #[(.int ia), (.int ib), (.int ic), (.int id), (.int ie), (.long jh)] maxLocals = mkF m 0 #[.val (.int ia), .val (.int ib), .val (.int ic), .val (.int id), .val (.int ie), .val (.long jh), .second, .unset, .unset, .unset, .unset, .unset, .unset, .unset, .unset, .unset, .unset, .unset, .unset, .unset, .unset, .unset, .unset, .unset, .unset, .unset, .unset, .unset] [] := by first | (simp [entryFrame, mkF, argsToLocals, Value.category, maxLocals]; done) | rfl
def Q_rm0 (Z : State) (ia : Int32) (ib : Int32) (ic : Int32) (id : Int32) (ie : Int32) (jh : Int64) (h0 : Heap) (n0 : Nat) (v : Option Value) (h : Heap) (L : List Loc) : Prop := (v = some (.int (1 : Int32))) ∧ (Fr n0 L) ∧ (True)
set_option maxRecDepth 65536 in
set_option maxHeartbeats 40000000 in
theorem rm0 (l : Launch) (Z : State) (a0 : Array Value) (hw : ∀ d ∈ tables_1, d.before a0 Z = true) (ws : List Jvm.Cond) (ia : Int32) (ib : Int32) (ic : Int32) (id : Int32) (ie : Int32) (jh : Int64) (h0 : Heap) (n0 : Nat) (Z0 : n0 ≤ h0.size) :
    MetFree l x (head1 (Jvm.Cond.code x code maxLocals ret :: ws) room_1) (fun aA U => aA = #[(.int ia), (.int ib), (.int ic), (.int id), (.int ie), (.long jh)] ∧ Z.Warmed39 U.vm ∧ U.heap = h0) (fun _ _ _ _ _ => True) (fun _ U o U' => ∃ v L, o = .returned v ∧ Q_rm0 Z ia ib ic id ie jh h0 n0 v U'.heap L ∧ FrameEnd U o U' L room_1.cells room_1.slots) := by
  refine MetFree.of_bodySF (plainFor_of_name pn_com_example_termvault_termvault_TallyAddPinLaw) hisR ?_
  intro p e s m args below meth c s₁ Bd hml0 hP hK
  obtain ⟨rfl, hZ, hh⟩ := hP
  have hx := Bd.exec
  have hby := Bd.bytes
  have hml : c.maxLocals = 28 := hml0
  have hown : s.vm.findClass "com/example/termvault/termvault/TallyAddPinLaw" = some m.cls := findClass_of_methodNamed Bd.named
  have hnm := (name_of_methodNamed Bd.named Bd.method).1
  have hret := Bd.returns
  have hlk : meth.locks = false := BodyLoose.notSynchronized Bd
  have X0 : Stand p l e room_1 s m #[(.int ia), (.int ib), (.int ic), (.int id), (.int ie), (.long jh)] below meth c s₁ [] 0 0 := Stand.of_body Bd
  have e0 : s₁.heap = h0 := by rw [← hh, Bd.state]; rfl
  have N0 := Fr.nil n0
  suffices hgo : Go p e below s room_1.cells room_1.slots (Q_rm0 Z ia ib ic id ie jh h0 n0) s₁ (mkF m 0 #[.val (.int ia), .val (.int ib), .val (.int ic), .val (.int id), .val (.int ie), .val (.long jh), .second, .unset, .unset, .unset, .unset, .unset, .unset, .unset, .unset, .unset, .unset, .unset, .unset, .unset, .unset, .unset, .unset, .unset, .unset, .unset, .unset, .unset] []) from hgo.enter (ef_rm0 m ia ib ic id ie jh)
  refine Go.step (fun _ k => XS.iloadN X0.here hx rfl (hb hby at_0) rfl k) ?_
  show Go _ _ _ _ _ _ _ s₁ (mkF m 1 #[.val (.int ia), .val (.int ib), .val (.int ic), .val (.int id), .val (.int ie), .val (.long jh), .second, .unset, .unset, .unset, .unset, .unset, .unset, .unset, .unset, .unset, .unset, .unset, .unset, .unset, .unset, .unset, .unset, .unset, .unset, .unset, .unset, .unset] [(.int ia)])
  refine Go.step (fun _ k => XS.bipush X0.here hx rfl (hb hby at_1) k) ?_
  show Go _ _ _ _ _ _ _ s₁ (mkF m 3 #[.val (.int ia), .val (.int ib), .val (.int ic), .val (.int id), .val (.int ie), .val (.long jh), .second, .unset, .unset, .unset, .unset, .unset, .unset, .unset, .unset, .unset, .unset, .unset, .unset, .unset, .unset, .unset, .unset, .unset, .unset, .unset, .unset, .unset] [(.int (15 : Int32)), (.int ia)])
  refine Go.step (fun _ k => XS.iand X0.here hx rfl (hb hby at_3) rfl k) ?_
  show Go _ _ _ _ _ _ _ s₁ (mkF m 4 #[.val (.int ia), .val (.int ib), .val (.int ic), .val (.int id), .val (.int ie), .val (.long jh), .second, .unset, .unset, .unset, .unset, .unset, .unset, .unset, .unset, .unset, .unset, .unset, .unset, .unset, .unset, .unset, .unset, .unset, .unset, .unset, .unset, .unset] [(.int (ia &&& (15 : Int32)))])
  refine Go.step (fun _ k => XS.bipush X0.here hx rfl (hb hby at_4) k) ?_
  show Go _ _ _ _ _ _ _ s₁ (mkF m 6 #[.val (.int ia), .val (.int ib), .val (.int ic), .val (.int id), .val (.int ie), .val (.long jh), .second, .unset, .unset, .unset, .unset, .unset, .unset, .unset, .unset, .unset, .unset, .unset, .unset, .unset, .unset, .unset, .unset, .unset, .unset, .unset, .unset, .unset] [(.int (9 : Int32)), (.int (ia &&& (15 : Int32)))])
  refine Go.step (fun _ k => iremM X0 hx rfl (hb hby at_6) rfl (by decide) k) ?_
  show Go _ _ _ _ _ _ _ s₁ (mkF m 7 #[.val (.int ia), .val (.int ib), .val (.int ic), .val (.int id), .val (.int ie), .val (.long jh), .second, .unset, .unset, .unset, .unset, .unset, .unset, .unset, .unset, .unset, .unset, .unset, .unset, .unset, .unset, .unset, .unset, .unset, .unset, .unset, .unset, .unset] [(.int ((ia &&& (15 : Int32)) % (9 : Int32)))])
  refine Go.step (fun _ k => XS.istore X0.here hx rfl (hb hby at_7) rfl (l' := #[.val (.int ia), .val (.int ib), .val (.int ic), .val (.int id), .val (.int ie), .val (.long jh), .second, .val (.int ((ia &&& (15 : Int32)) % (9 : Int32))), .unset, .unset, .unset, .unset, .unset, .unset, .unset, .unset, .unset, .unset, .unset, .unset, .unset, .unset, .unset, .unset, .unset, .unset, .unset, .unset]) rfl k) ?_
  show Go _ _ _ _ _ _ _ s₁ (mkF m 9 #[.val (.int ia), .val (.int ib), .val (.int ic), .val (.int id), .val (.int ie), .val (.long jh), .second, .val (.int ((ia &&& (15 : Int32)) % (9 : Int32))), .unset, .unset, .unset, .unset, .unset, .unset, .unset, .unset, .unset, .unset, .unset, .unset, .unset, .unset, .unset, .unset, .unset, .unset, .unset, .unset] [])
  have b_vg : 0 ≤ ((ia &&& (15 : Int32)) % (9 : Int32)).toInt ∧ ((ia &&& (15 : Int32)) % (9 : Int32)).toInt < 9 := (by have := rng32 ia; have : (15 : Int32).toInt = 15 := rfl; have := rng32 (ia &&& (15 : Int32)); have := c_mask ia (15 : Int32) 4 (by decide) (by decide); have : (9 : Int32).toInt = 9 := rfl; have := rng32 ((ia &&& (15 : Int32)) % (9 : Int32)); have := c_irem (ia &&& (15 : Int32)) (9 : Int32) 9 rfl; omega)
  generalize ((ia &&& (15 : Int32)) % (9 : Int32)) = vg at b_vg ⊢
  show Go _ _ _ _ _ _ _ s₁ (mkF m 9 #[.val (.int ia), .val (.int ib), .val (.int ic), .val (.int id), .val (.int ie), .val (.long jh), .second, .val (.int vg), .unset, .unset, .unset, .unset, .unset, .unset, .unset, .unset, .unset, .unset, .unset, .unset, .unset, .unset, .unset, .unset, .unset, .unset, .unset, .unset] [])
  refine Go.step (fun _ k => XS.iloadN X0.here hx rfl (hb hby at_9) rfl k) ?_
  show Go _ _ _ _ _ _ _ s₁ (mkF m 10 #[.val (.int ia), .val (.int ib), .val (.int ic), .val (.int id), .val (.int ie), .val (.long jh), .second, .val (.int vg), .unset, .unset, .unset, .unset, .unset, .unset, .unset, .unset, .unset, .unset, .unset, .unset, .unset, .unset, .unset, .unset, .unset, .unset, .unset, .unset] [(.int ib)])
  refine Go.step (fun _ k => XS.bipush X0.here hx rfl (hb hby at_10) k) ?_
  show Go _ _ _ _ _ _ _ s₁ (mkF m 12 #[.val (.int ia), .val (.int ib), .val (.int ic), .val (.int id), .val (.int ie), .val (.long jh), .second, .val (.int vg), .unset, .unset, .unset, .unset, .unset, .unset, .unset, .unset, .unset, .unset, .unset, .unset, .unset, .unset, .unset, .unset, .unset, .unset, .unset, .unset] [(.int (15 : Int32)), (.int ib)])
  refine Go.step (fun _ k => XS.iand X0.here hx rfl (hb hby at_12) rfl k) ?_
  show Go _ _ _ _ _ _ _ s₁ (mkF m 13 #[.val (.int ia), .val (.int ib), .val (.int ic), .val (.int id), .val (.int ie), .val (.long jh), .second, .val (.int vg), .unset, .unset, .unset, .unset, .unset, .unset, .unset, .unset, .unset, .unset, .unset, .unset, .unset, .unset, .unset, .unset, .unset, .unset, .unset, .unset] [(.int (ib &&& (15 : Int32)))])
  refine Go.step (fun _ k => XS.bipush X0.here hx rfl (hb hby at_13) k) ?_
  show Go _ _ _ _ _ _ _ s₁ (mkF m 15 #[.val (.int ia), .val (.int ib), .val (.int ic), .val (.int id), .val (.int ie), .val (.long jh), .second, .val (.int vg), .unset, .unset, .unset, .unset, .unset, .unset, .unset, .unset, .unset, .unset, .unset, .unset, .unset, .unset, .unset, .unset, .unset, .unset, .unset, .unset] [(.int (9 : Int32)), (.int (ib &&& (15 : Int32)))])
  refine Go.step (fun _ k => iremM X0 hx rfl (hb hby at_15) rfl (by decide) k) ?_
  show Go _ _ _ _ _ _ _ s₁ (mkF m 16 #[.val (.int ia), .val (.int ib), .val (.int ic), .val (.int id), .val (.int ie), .val (.long jh), .second, .val (.int vg), .unset, .unset, .unset, .unset, .unset, .unset, .unset, .unset, .unset, .unset, .unset, .unset, .unset, .unset, .unset, .unset, .unset, .unset, .unset, .unset] [(.int ((ib &&& (15 : Int32)) % (9 : Int32)))])
  refine Go.step (fun _ k => XS.istore X0.here hx rfl (hb hby at_16) rfl (l' := #[.val (.int ia), .val (.int ib), .val (.int ic), .val (.int id), .val (.int ie), .val (.long jh), .second, .val (.int vg), .val (.int ((ib &&& (15 : Int32)) % (9 : Int32))), .unset, .unset, .unset, .unset, .unset, .unset, .unset, .unset, .unset, .unset, .unset, .unset, .unset, .unset, .unset, .unset, .unset, .unset, .unset]) rfl k) ?_
  show Go _ _ _ _ _ _ _ s₁ (mkF m 18 #[.val (.int ia), .val (.int ib), .val (.int ic), .val (.int id), .val (.int ie), .val (.long jh), .second, .val (.int vg), .val (.int ((ib &&& (15 : Int32)) % (9 : Int32))), .unset, .unset, .unset, .unset, .unset, .unset, .unset, .unset, .unset, .unset, .unset, .unset, .unset, .unset, .unset, .unset, .unset, .unset, .unset] [])
  have b_vg2 : 0 ≤ ((ib &&& (15 : Int32)) % (9 : Int32)).toInt ∧ ((ib &&& (15 : Int32)) % (9 : Int32)).toInt < 9 := (by have := rng32 ib; have : (15 : Int32).toInt = 15 := rfl; have := rng32 (ib &&& (15 : Int32)); have := c_mask ib (15 : Int32) 4 (by decide) (by decide); have : (9 : Int32).toInt = 9 := rfl; have := rng32 ((ib &&& (15 : Int32)) % (9 : Int32)); have := c_irem (ib &&& (15 : Int32)) (9 : Int32) 9 rfl; omega)
  generalize ((ib &&& (15 : Int32)) % (9 : Int32)) = vg2 at b_vg2 ⊢
  show Go _ _ _ _ _ _ _ s₁ (mkF m 18 #[.val (.int ia), .val (.int ib), .val (.int ic), .val (.int id), .val (.int ie), .val (.long jh), .second, .val (.int vg), .val (.int vg2), .unset, .unset, .unset, .unset, .unset, .unset, .unset, .unset, .unset, .unset, .unset, .unset, .unset, .unset, .unset, .unset, .unset, .unset, .unset] [])
  refine Go.step (fun _ k => XS.iloadN X0.here hx rfl (hb hby at_18) rfl k) ?_
  show Go _ _ _ _ _ _ _ s₁ (mkF m 19 #[.val (.int ia), .val (.int ib), .val (.int ic), .val (.int id), .val (.int ie), .val (.long jh), .second, .val (.int vg), .val (.int vg2), .unset, .unset, .unset, .unset, .unset, .unset, .unset, .unset, .unset, .unset, .unset, .unset, .unset, .unset, .unset, .unset, .unset, .unset, .unset] [(.int ic)])
  refine Go.step (fun _ k => XS.bipush X0.here hx rfl (hb hby at_19) k) ?_
  show Go _ _ _ _ _ _ _ s₁ (mkF m 21 #[.val (.int ia), .val (.int ib), .val (.int ic), .val (.int id), .val (.int ie), .val (.long jh), .second, .val (.int vg), .val (.int vg2), .unset, .unset, .unset, .unset, .unset, .unset, .unset, .unset, .unset, .unset, .unset, .unset, .unset, .unset, .unset, .unset, .unset, .unset, .unset] [(.int (15 : Int32)), (.int ic)])
  refine Go.step (fun _ k => XS.iand X0.here hx rfl (hb hby at_21) rfl k) ?_
  show Go _ _ _ _ _ _ _ s₁ (mkF m 22 #[.val (.int ia), .val (.int ib), .val (.int ic), .val (.int id), .val (.int ie), .val (.long jh), .second, .val (.int vg), .val (.int vg2), .unset, .unset, .unset, .unset, .unset, .unset, .unset, .unset, .unset, .unset, .unset, .unset, .unset, .unset, .unset, .unset, .unset, .unset, .unset] [(.int (ic &&& (15 : Int32)))])
  refine Go.step (fun _ k => XS.bipush X0.here hx rfl (hb hby at_22) k) ?_
  show Go _ _ _ _ _ _ _ s₁ (mkF m 24 #[.val (.int ia), .val (.int ib), .val (.int ic), .val (.int id), .val (.int ie), .val (.long jh), .second, .val (.int vg), .val (.int vg2), .unset, .unset, .unset, .unset, .unset, .unset, .unset, .unset, .unset, .unset, .unset, .unset, .unset, .unset, .unset, .unset, .unset, .unset, .unset] [(.int (9 : Int32)), (.int (ic &&& (15 : Int32)))])
  refine Go.step (fun _ k => iremM X0 hx rfl (hb hby at_24) rfl (by decide) k) ?_
  show Go _ _ _ _ _ _ _ s₁ (mkF m 25 #[.val (.int ia), .val (.int ib), .val (.int ic), .val (.int id), .val (.int ie), .val (.long jh), .second, .val (.int vg), .val (.int vg2), .unset, .unset, .unset, .unset, .unset, .unset, .unset, .unset, .unset, .unset, .unset, .unset, .unset, .unset, .unset, .unset, .unset, .unset, .unset] [(.int ((ic &&& (15 : Int32)) % (9 : Int32)))])
  refine Go.step (fun _ k => XS.istore X0.here hx rfl (hb hby at_25) rfl (l' := #[.val (.int ia), .val (.int ib), .val (.int ic), .val (.int id), .val (.int ie), .val (.long jh), .second, .val (.int vg), .val (.int vg2), .val (.int ((ic &&& (15 : Int32)) % (9 : Int32))), .unset, .unset, .unset, .unset, .unset, .unset, .unset, .unset, .unset, .unset, .unset, .unset, .unset, .unset, .unset, .unset, .unset, .unset]) rfl k) ?_
  show Go _ _ _ _ _ _ _ s₁ (mkF m 27 #[.val (.int ia), .val (.int ib), .val (.int ic), .val (.int id), .val (.int ie), .val (.long jh), .second, .val (.int vg), .val (.int vg2), .val (.int ((ic &&& (15 : Int32)) % (9 : Int32))), .unset, .unset, .unset, .unset, .unset, .unset, .unset, .unset, .unset, .unset, .unset, .unset, .unset, .unset, .unset, .unset, .unset, .unset] [])
  have b_vwb : 0 ≤ ((ic &&& (15 : Int32)) % (9 : Int32)).toInt ∧ ((ic &&& (15 : Int32)) % (9 : Int32)).toInt < 9 := (by have := rng32 ic; have : (15 : Int32).toInt = 15 := rfl; have := rng32 (ic &&& (15 : Int32)); have := c_mask ic (15 : Int32) 4 (by decide) (by decide); have : (9 : Int32).toInt = 9 := rfl; have := rng32 ((ic &&& (15 : Int32)) % (9 : Int32)); have := c_irem (ic &&& (15 : Int32)) (9 : Int32) 9 rfl; omega)
  generalize ((ic &&& (15 : Int32)) % (9 : Int32)) = vwb at b_vwb ⊢
  show Go _ _ _ _ _ _ _ s₁ (mkF m 27 #[.val (.int ia), .val (.int ib), .val (.int ic), .val (.int id), .val (.int ie), .val (.long jh), .second, .val (.int vg), .val (.int vg2), .val (.int vwb), .unset, .unset, .unset, .unset, .unset, .unset, .unset, .unset, .unset, .unset, .unset, .unset, .unset, .unset, .unset, .unset, .unset, .unset] [])
  refine Go.step (fun _ k => XS.iloadN X0.here hx rfl (hb hby at_27) rfl k) ?_
  show Go _ _ _ _ _ _ _ s₁ (mkF m 28 #[.val (.int ia), .val (.int ib), .val (.int ic), .val (.int id), .val (.int ie), .val (.long jh), .second, .val (.int vg), .val (.int vg2), .val (.int vwb), .unset, .unset, .unset, .unset, .unset, .unset, .unset, .unset, .unset, .unset, .unset, .unset, .unset, .unset, .unset, .unset, .unset, .unset] [(.int id)])
  refine Go.step (fun _ k => XS.bipush X0.here hx rfl (hb hby at_28) k) ?_
  show Go _ _ _ _ _ _ _ s₁ (mkF m 30 #[.val (.int ia), .val (.int ib), .val (.int ic), .val (.int id), .val (.int ie), .val (.long jh), .second, .val (.int vg), .val (.int vg2), .val (.int vwb), .unset, .unset, .unset, .unset, .unset, .unset, .unset, .unset, .unset, .unset, .unset, .unset, .unset, .unset, .unset, .unset, .unset, .unset] [(.int (15 : Int32)), (.int id)])
  refine Go.step (fun _ k => XS.iand X0.here hx rfl (hb hby at_30) rfl k) ?_
  show Go _ _ _ _ _ _ _ s₁ (mkF m 31 #[.val (.int ia), .val (.int ib), .val (.int ic), .val (.int id), .val (.int ie), .val (.long jh), .second, .val (.int vg), .val (.int vg2), .val (.int vwb), .unset, .unset, .unset, .unset, .unset, .unset, .unset, .unset, .unset, .unset, .unset, .unset, .unset, .unset, .unset, .unset, .unset, .unset] [(.int (id &&& (15 : Int32)))])
  refine Go.step (fun _ k => XS.bipush X0.here hx rfl (hb hby at_31) k) ?_
  show Go _ _ _ _ _ _ _ s₁ (mkF m 33 #[.val (.int ia), .val (.int ib), .val (.int ic), .val (.int id), .val (.int ie), .val (.long jh), .second, .val (.int vg), .val (.int vg2), .val (.int vwb), .unset, .unset, .unset, .unset, .unset, .unset, .unset, .unset, .unset, .unset, .unset, .unset, .unset, .unset, .unset, .unset, .unset, .unset] [(.int (9 : Int32)), (.int (id &&& (15 : Int32)))])
  refine Go.step (fun _ k => iremM X0 hx rfl (hb hby at_33) rfl (by decide) k) ?_
  show Go _ _ _ _ _ _ _ s₁ (mkF m 34 #[.val (.int ia), .val (.int ib), .val (.int ic), .val (.int id), .val (.int ie), .val (.long jh), .second, .val (.int vg), .val (.int vg2), .val (.int vwb), .unset, .unset, .unset, .unset, .unset, .unset, .unset, .unset, .unset, .unset, .unset, .unset, .unset, .unset, .unset, .unset, .unset, .unset] [(.int ((id &&& (15 : Int32)) % (9 : Int32)))])
  refine Go.step (fun _ k => XS.istore X0.here hx rfl (hb hby at_34) rfl (l' := #[.val (.int ia), .val (.int ib), .val (.int ic), .val (.int id), .val (.int ie), .val (.long jh), .second, .val (.int vg), .val (.int vg2), .val (.int vwb), .val (.int ((id &&& (15 : Int32)) % (9 : Int32))), .unset, .unset, .unset, .unset, .unset, .unset, .unset, .unset, .unset, .unset, .unset, .unset, .unset, .unset, .unset, .unset, .unset]) rfl k) ?_
  show Go _ _ _ _ _ _ _ s₁ (mkF m 36 #[.val (.int ia), .val (.int ib), .val (.int ic), .val (.int id), .val (.int ie), .val (.long jh), .second, .val (.int vg), .val (.int vg2), .val (.int vwb), .val (.int ((id &&& (15 : Int32)) % (9 : Int32))), .unset, .unset, .unset, .unset, .unset, .unset, .unset, .unset, .unset, .unset, .unset, .unset, .unset, .unset, .unset, .unset, .unset] [])
  have b_vwa : 0 ≤ ((id &&& (15 : Int32)) % (9 : Int32)).toInt ∧ ((id &&& (15 : Int32)) % (9 : Int32)).toInt < 9 := (by have := rng32 id; have : (15 : Int32).toInt = 15 := rfl; have := rng32 (id &&& (15 : Int32)); have := c_mask id (15 : Int32) 4 (by decide) (by decide); have : (9 : Int32).toInt = 9 := rfl; have := rng32 ((id &&& (15 : Int32)) % (9 : Int32)); have := c_irem (id &&& (15 : Int32)) (9 : Int32) 9 rfl; omega)
  generalize ((id &&& (15 : Int32)) % (9 : Int32)) = vwa at b_vwa ⊢
  show Go _ _ _ _ _ _ _ s₁ (mkF m 36 #[.val (.int ia), .val (.int ib), .val (.int ic), .val (.int id), .val (.int ie), .val (.long jh), .second, .val (.int vg), .val (.int vg2), .val (.int vwb), .val (.int vwa), .unset, .unset, .unset, .unset, .unset, .unset, .unset, .unset, .unset, .unset, .unset, .unset, .unset, .unset, .unset, .unset, .unset] [])
  refine Go.step (fun _ k => XS.iload X0.here hx rfl (hb hby at_36) rfl k) ?_
  show Go _ _ _ _ _ _ _ s₁ (mkF m 38 #[.val (.int ia), .val (.int ib), .val (.int ic), .val (.int id), .val (.int ie), .val (.long jh), .second, .val (.int vg), .val (.int vg2), .val (.int vwb), .val (.int vwa), .unset, .unset, .unset, .unset, .unset, .unset, .unset, .unset, .unset, .unset, .unset, .unset, .unset, .unset, .unset, .unset, .unset] [(.int ie)])
  refine Go.step (fun _ k => XS.bipush X0.here hx rfl (hb hby at_38) k) ?_
  show Go _ _ _ _ _ _ _ s₁ (mkF m 40 #[.val (.int ia), .val (.int ib), .val (.int ic), .val (.int id), .val (.int ie), .val (.long jh), .second, .val (.int vg), .val (.int vg2), .val (.int vwb), .val (.int vwa), .unset, .unset, .unset, .unset, .unset, .unset, .unset, .unset, .unset, .unset, .unset, .unset, .unset, .unset, .unset, .unset, .unset] [(.int (15 : Int32)), (.int ie)])
  refine Go.step (fun _ k => XS.iand X0.here hx rfl (hb hby at_40) rfl k) ?_
  show Go _ _ _ _ _ _ _ s₁ (mkF m 41 #[.val (.int ia), .val (.int ib), .val (.int ic), .val (.int id), .val (.int ie), .val (.long jh), .second, .val (.int vg), .val (.int vg2), .val (.int vwb), .val (.int vwa), .unset, .unset, .unset, .unset, .unset, .unset, .unset, .unset, .unset, .unset, .unset, .unset, .unset, .unset, .unset, .unset, .unset] [(.int (ie &&& (15 : Int32)))])
  refine Go.step (fun _ k => XS.bipush X0.here hx rfl (hb hby at_41) k) ?_
  show Go _ _ _ _ _ _ _ s₁ (mkF m 43 #[.val (.int ia), .val (.int ib), .val (.int ic), .val (.int id), .val (.int ie), .val (.long jh), .second, .val (.int vg), .val (.int vg2), .val (.int vwb), .val (.int vwa), .unset, .unset, .unset, .unset, .unset, .unset, .unset, .unset, .unset, .unset, .unset, .unset, .unset, .unset, .unset, .unset, .unset] [(.int (9 : Int32)), (.int (ie &&& (15 : Int32)))])
  refine Go.step (fun _ k => iremM X0 hx rfl (hb hby at_43) rfl (by decide) k) ?_
  show Go _ _ _ _ _ _ _ s₁ (mkF m 44 #[.val (.int ia), .val (.int ib), .val (.int ic), .val (.int id), .val (.int ie), .val (.long jh), .second, .val (.int vg), .val (.int vg2), .val (.int vwb), .val (.int vwa), .unset, .unset, .unset, .unset, .unset, .unset, .unset, .unset, .unset, .unset, .unset, .unset, .unset, .unset, .unset, .unset, .unset] [(.int ((ie &&& (15 : Int32)) % (9 : Int32)))])
  refine Go.step (fun _ k => XS.istore X0.here hx rfl (hb hby at_44) rfl (l' := #[.val (.int ia), .val (.int ib), .val (.int ic), .val (.int id), .val (.int ie), .val (.long jh), .second, .val (.int vg), .val (.int vg2), .val (.int vwb), .val (.int vwa), .val (.int ((ie &&& (15 : Int32)) % (9 : Int32))), .unset, .unset, .unset, .unset, .unset, .unset, .unset, .unset, .unset, .unset, .unset, .unset, .unset, .unset, .unset, .unset]) rfl k) ?_
  show Go _ _ _ _ _ _ _ s₁ (mkF m 46 #[.val (.int ia), .val (.int ib), .val (.int ic), .val (.int id), .val (.int ie), .val (.long jh), .second, .val (.int vg), .val (.int vg2), .val (.int vwb), .val (.int vwa), .val (.int ((ie &&& (15 : Int32)) % (9 : Int32))), .unset, .unset, .unset, .unset, .unset, .unset, .unset, .unset, .unset, .unset, .unset, .unset, .unset, .unset, .unset, .unset] [])
  have b_vwc : 0 ≤ ((ie &&& (15 : Int32)) % (9 : Int32)).toInt ∧ ((ie &&& (15 : Int32)) % (9 : Int32)).toInt < 9 := (by have := rng32 ie; have : (15 : Int32).toInt = 15 := rfl; have := rng32 (ie &&& (15 : Int32)); have := c_mask ie (15 : Int32) 4 (by decide) (by decide); have : (9 : Int32).toInt = 9 := rfl; have := rng32 ((ie &&& (15 : Int32)) % (9 : Int32)); have := c_irem (ie &&& (15 : Int32)) (9 : Int32) 9 rfl; omega)
  generalize ((ie &&& (15 : Int32)) % (9 : Int32)) = vwc at b_vwc ⊢
  show Go _ _ _ _ _ _ _ s₁ (mkF m 46 #[.val (.int ia), .val (.int ib), .val (.int ic), .val (.int id), .val (.int ie), .val (.long jh), .second, .val (.int vg), .val (.int vg2), .val (.int vwb), .val (.int vwa), .val (.int vwc), .unset, .unset, .unset, .unset, .unset, .unset, .unset, .unset, .unset, .unset, .unset, .unset, .unset, .unset, .unset, .unset] [])
  refine Go.step (fun _ k => XS.lload X0.here hx rfl (hb hby at_46) rfl k) ?_
  show Go _ _ _ _ _ _ _ s₁ (mkF m 48 #[.val (.int ia), .val (.int ib), .val (.int ic), .val (.int id), .val (.int ie), .val (.long jh), .second, .val (.int vg), .val (.int vg2), .val (.int vwb), .val (.int vwa), .val (.int vwc), .unset, .unset, .unset, .unset, .unset, .unset, .unset, .unset, .unset, .unset, .unset, .unset, .unset, .unset, .unset, .unset] [(.long jh)])
  refine Go.step (X0.ldc2Long hx hown (mvT hZ (hw _ (List.mem_of_getElem? (i := 0) rfl))) (g := (mkF m 48 #[.val (.int ia), .val (.int ib), .val (.int ic), .val (.int id), .val (.int ie), .val (.long jh), .second, .val (.int vg), .val (.int vg2), .val (.int vwb), .val (.int vwa), .val (.int vwc), .unset, .unset, .unset, .unset, .unset, .unset, .unset, .unset, .unset, .unset, .unset, .unset, .unset, .unset, .unset, .unset] [(.long jh)])) rfl (hb hby at_48)) ?_
  show Go _ _ _ _ _ _ _ s₁ (mkF m 51 #[.val (.int ia), .val (.int ib), .val (.int ic), .val (.int id), .val (.int ie), .val (.long jh), .second, .val (.int vg), .val (.int vg2), .val (.int vwb), .val (.int vwa), .val (.int vwc), .unset, .unset, .unset, .unset, .unset, .unset, .unset, .unset, .unset, .unset, .unset, .unset, .unset, .unset, .unset, .unset] [(.long (2147483647 : Int64)), (.long jh)])
  refine Go.step (fun _ k => XS.land X0.here hx rfl (hb hby at_51) rfl k) ?_
  show Go _ _ _ _ _ _ _ s₁ (mkF m 52 #[.val (.int ia), .val (.int ib), .val (.int ic), .val (.int id), .val (.int ie), .val (.long jh), .second, .val (.int vg), .val (.int vg2), .val (.int vwb), .val (.int vwa), .val (.int vwc), .unset, .unset, .unset, .unset, .unset, .unset, .unset, .unset, .unset, .unset, .unset, .unset, .unset, .unset, .unset, .unset] [(.long (jh &&& (2147483647 : Int64)))])
  refine Go.step (fun _ k => XS.lstore X0.here hx rfl (hb hby at_52) rfl (l' := #[.val (.int ia), .val (.int ib), .val (.int ic), .val (.int id), .val (.int ie), .val (.long jh), .second, .val (.int vg), .val (.int vg2), .val (.int vwb), .val (.int vwa), .val (.int vwc), .val (.long (jh &&& (2147483647 : Int64))), .second, .unset, .unset, .unset, .unset, .unset, .unset, .unset, .unset, .unset, .unset, .unset, .unset, .unset, .unset]) rfl k) ?_
  show Go _ _ _ _ _ _ _ s₁ (mkF m 54 #[.val (.int ia), .val (.int ib), .val (.int ic), .val (.int id), .val (.int ie), .val (.long jh), .second, .val (.int vg), .val (.int vg2), .val (.int vwb), .val (.int vwa), .val (.int vwc), .val (.long (jh &&& (2147483647 : Int64))), .second, .unset, .unset, .unset, .unset, .unset, .unset, .unset, .unset, .unset, .unset, .unset, .unset, .unset, .unset] [])
  generalize (jh &&& (2147483647 : Int64)) = vh
  show Go _ _ _ _ _ _ _ s₁ (mkF m 54 #[.val (.int ia), .val (.int ib), .val (.int ic), .val (.int id), .val (.int ie), .val (.long jh), .second, .val (.int vg), .val (.int vg2), .val (.int vwb), .val (.int vwa), .val (.int vwc), .val (.long vh), .second, .unset, .unset, .unset, .unset, .unset, .unset, .unset, .unset, .unset, .unset, .unset, .unset, .unset, .unset] [])
  obtain ⟨T65, h65, X65, e65, E65, A65, D65, -, st65⟩ := newO X0 hx hZ hown (hw _ (List.mem_of_getElem? (i := 1) rfl)) (hw _ (List.mem_of_getElem? (i := 2) rfl)) (hw _ (List.mem_of_getElem? (i := 3) rfl)) e0 (g := (mkF m 54 #[.val (.int ia), .val (.int ib), .val (.int ic), .val (.int id), .val (.int ie), .val (.long jh), .second, .val (.int vg), .val (.int vg2), .val (.int vwb), .val (.int vwa), .val (.int vwc), .val (.long vh), .second, .unset, .unset, .unset, .unset, .unset, .unset, .unset, .unset, .unset, .unset, .unset, .unset, .unset, .unset] [])) rfl (hb hby at_54) (by decide) (by decide)
  obtain ⟨b65, g65⟩ : ∃ z, z = h0.size := ⟨_, rfl⟩
  rw [← g65] at A65 D65 st65
  refine Go.step st65 ?_
  have g_b65 : n0 ≤ b65 := Nat.le_trans Z0 (Nat.le_of_eq g65.symm)
  have Z65 : n0 ≤ h65.size := Nat.le_trans Z0 E65.1
  have Fwidths_65 : Fld Z h65 b65 "com/example/termvault/termvault/FieldLengths$Tally" "widths" "J" (.long (0 : Int64)) := D65 (Or.inl (hw _ (List.mem_of_getElem? (i := 16) rfl))) (ty := .long) (by decide)
  have FholderBytes_65 : Fld Z h65 b65 "com/example/termvault/termvault/FieldLengths$Tally" "holderBytes" "J" (.long (0 : Int64)) := D65 (Or.inl (hw _ (List.mem_of_getElem? (i := 18) rfl))) (ty := .long) (by decide)
  have Fholders_65 : Fld Z h65 b65 "com/example/termvault/termvault/FieldLengths$Tally" "holders" "J" (.long (0 : Int64)) := D65 (Or.inl (hw _ (List.mem_of_getElem? (i := 20) rfl))) (ty := .long) (by decide)
  show Go _ _ _ _ _ _ _ T65 (mkF m 57 #[.val (.int ia), .val (.int ib), .val (.int ic), .val (.int id), .val (.int ie), .val (.long jh), .second, .val (.int vg), .val (.int vg2), .val (.int vwb), .val (.int vwa), .val (.int vwc), .val (.long vh), .second, .unset, .unset, .unset, .unset, .unset, .unset, .unset, .unset, .unset, .unset, .unset, .unset, .unset, .unset] [(.ref b65)])
  refine Go.step (fun _ k => XS.dup X65.here hx rfl (hb hby at_57) rfl rfl k) ?_
  show Go _ _ _ _ _ _ _ T65 (mkF m 58 #[.val (.int ia), .val (.int ib), .val (.int ic), .val (.int id), .val (.int ie), .val (.long jh), .second, .val (.int vg), .val (.int vg2), .val (.int vwb), .val (.int vwa), .val (.int vwc), .val (.long vh), .second, .unset, .unset, .unset, .unset, .unset, .unset, .unset, .unset, .unset, .unset, .unset, .unset, .unset, .unset] [(.ref b65), (.ref b65)])
  obtain ⟨_, _, ⟨T66, L66, k66, n66⟩, -, X66, ⟨Lc66, hQ66, l66, y66, z66⟩, st66⟩ := X65.specialBack hx (y := (⟨"com/example/termvault/termvault/FieldLengths$Tally", "<init>", "()V"⟩ : MethodName)) rfl hown (mvT hZ (hw _ (List.mem_of_getElem? (i := 4) rfl))) (mvT hZ (hw _ (List.mem_of_getElem? (i := 5) rfl))) (mvT hZ (hw _ (List.mem_of_getElem? (i := 6) rfl))) (by decide) (backOf (W := 1) (rmIn l Z a0 hw [] b65 h65 n0 Z65 A65) hZ (hw _ (List.mem_of_getElem? (i := 6) rfl)) (hw _ (List.mem_of_getElem? (i := 3) rfl)) (by decide) (by decide)) (g := (mkF m 58 #[.val (.int ia), .val (.int ib), .val (.int ic), .val (.int id), .val (.int ie), .val (.long jh), .second, .val (.int vg), .val (.int vg2), .val (.int vwb), .val (.int vwa), .val (.int vwc), .val (.long vh), .second, .unset, .unset, .unset, .unset, .unset, .unset, .unset, .unset, .unset, .unset, .unset, .unset, .unset, .unset] [(.ref b65), (.ref b65)])) rfl (by rw [hml]; rfl) (Steps.refl _) (a := b65) (argsL := []) (rest := [(.ref b65)]) (lenOf pd___V rfl) rfl (by show 2 * 0 + _ ≤ _; exact Nat.le_of_eq rfl) (hb hby at_58) (fun _ _ => ⟨rfl, e65, (by decide : 1 + 0 ≤ _), (by decide : 3 + 0 ≤ _)⟩)
  dsimp only [Pt.U, Pt.locs, Pt.cells, Pt.slots] at X66 l66 y66 z66 st66 hQ66
  subst l66 y66 z66
  obtain ⟨h66, e66⟩ : ∃ h, T66.heap = h := ⟨_, rfl⟩
  rw [e66] at hQ66
  obtain ⟨rfl, Nq66, hs66⟩ := hQ66
  have N66 := Fr.app N0 Nq66
  rw [hs66] at e66
  refine Go.trans st66 ?_
  show Go _ _ _ _ _ _ _ T66 (mkF m 61 #[.val (.int ia), .val (.int ib), .val (.int ic), .val (.int id), .val (.int ie), .val (.long jh), .second, .val (.int vg), .val (.int vg2), .val (.int vwb), .val (.int vwa), .val (.int vwc), .val (.long vh), .second, .unset, .unset, .unset, .unset, .unset, .unset, .unset, .unset, .unset, .unset, .unset, .unset, .unset, .unset] [(.ref b65)])
  refine Go.step (fun _ k => XS.astore X66.here hx rfl (hb hby at_61) rfl rfl (l' := #[.val (.int ia), .val (.int ib), .val (.int ic), .val (.int id), .val (.int ie), .val (.long jh), .second, .val (.int vg), .val (.int vg2), .val (.int vwb), .val (.int vwa), .val (.int vwc), .val (.long vh), .second, .val (.ref b65), .unset, .unset, .unset, .unset, .unset, .unset, .unset, .unset, .unset, .unset, .unset, .unset, .unset]) rfl k) ?_
  show Go _ _ _ _ _ _ _ T66 (mkF m 63 #[.val (.int ia), .val (.int ib), .val (.int ic), .val (.int id), .val (.int ie), .val (.long jh), .second, .val (.int vg), .val (.int vg2), .val (.int vwb), .val (.int vwa), .val (.int vwc), .val (.long vh), .second, .val (.ref b65), .unset, .unset, .unset, .unset, .unset, .unset, .unset, .unset, .unset, .unset, .unset, .unset, .unset] [])
  refine Go.step (fun _ k => XS.aload X66.here hx rfl (hb hby at_63) rfl rfl k) ?_
  show Go _ _ _ _ _ _ _ T66 (mkF m 65 #[.val (.int ia), .val (.int ib), .val (.int ic), .val (.int id), .val (.int ie), .val (.long jh), .second, .val (.int vg), .val (.int vg2), .val (.int vwb), .val (.int vwa), .val (.int vwc), .val (.long vh), .second, .val (.ref b65), .unset, .unset, .unset, .unset, .unset, .unset, .unset, .unset, .unset, .unset, .unset, .unset, .unset] [(.ref b65)])
  refine Go.step (fun _ k => XS.lconst X66.here hx rfl (hb hby at_65) k) ?_
  show Go _ _ _ _ _ _ _ T66 (mkF m 66 #[.val (.int ia), .val (.int ib), .val (.int ic), .val (.int id), .val (.int ie), .val (.long jh), .second, .val (.int vg), .val (.int vg2), .val (.int vwb), .val (.int vwa), .val (.int vwc), .val (.long vh), .second, .val (.ref b65), .unset, .unset, .unset, .unset, .unset, .unset, .unset, .unset, .unset, .unset, .unset, .unset, .unset] [(.long (0 : Int64)), (.ref b65)])
  refine Go.step (fun _ k => XS.iconst X66.here hx rfl (hb hby at_66) k) ?_
  show Go _ _ _ _ _ _ _ T66 (mkF m 67 #[.val (.int ia), .val (.int ib), .val (.int ic), .val (.int id), .val (.int ie), .val (.long jh), .second, .val (.int vg), .val (.int vg2), .val (.int vwb), .val (.int vwa), .val (.int vwc), .val (.long vh), .second, .val (.ref b65), .unset, .unset, .unset, .unset, .unset, .unset, .unset, .unset, .unset, .unset, .unset, .unset, .unset] [(.int (0 : Int32)), (.long (0 : Int64)), (.ref b65)])
  refine Go.step (fun _ k => XS.iload X66.here hx rfl (hb hby at_67) rfl k) ?_
  show Go _ _ _ _ _ _ _ T66 (mkF m 69 #[.val (.int ia), .val (.int ib), .val (.int ic), .val (.int id), .val (.int ie), .val (.long jh), .second, .val (.int vg), .val (.int vg2), .val (.int vwb), .val (.int vwa), .val (.int vwc), .val (.long vh), .second, .val (.ref b65), .unset, .unset, .unset, .unset, .unset, .unset, .unset, .unset, .unset, .unset, .unset, .unset, .unset] [(.int vg), (.int (0 : Int32)), (.long (0 : Int64)), (.ref b65)])
  obtain ⟨cq67, kq67, q67a, q67b, q67c⟩ := isOf hZ e66 A65
  obtain ⟨_, _, ⟨T67, L67, k67, n67⟩, -, X67, ⟨Lc67, hQ67, l67, y67, z67⟩, st67⟩ := X66.virtualBack hx (y := (⟨"com/example/termvault/termvault/FieldLengths$Tally", "add", "(JII)V"⟩ : MethodName)) (z := (⟨"com/example/termvault/termvault/FieldLengths$Tally", "add", "(JII)V"⟩ : MethodName)) hown (mvT hZ (hw _ (List.mem_of_getElem? (i := 10) rfl))) (mvT hZ (hw _ (List.mem_of_getElem? (i := 11) rfl))) (notFace_of_selects (args := #[]) (mvT hZ (hw _ (List.mem_of_getElem? (i := 13) rfl)))) (mvT hZ (hw _ (List.mem_of_getElem? (i := 13) rfl))) (mvT hZ (hw _ (List.mem_of_getElem? (i := 12) rfl))) (by decide) (backOf (W := 0) (rmAd l Z a0 hw [] b65 (0 : Int64) (0 : Int32) vg (0 : Int64) (0 : Int64) (0 : Int64) h65 n0 Z65 A65 Fwidths_65 FholderBytes_65 Fholders_65 g_b65) hZ (hw _ (List.mem_of_getElem? (i := 14) rfl)) (hw _ (List.mem_of_getElem? (i := 3) rfl)) (by decide) (by decide)) q67a q67c (g := (mkF m 69 #[.val (.int ia), .val (.int ib), .val (.int ic), .val (.int id), .val (.int ie), .val (.long jh), .second, .val (.int vg), .val (.int vg2), .val (.int vwb), .val (.int vwa), .val (.int vwc), .val (.long vh), .second, .val (.ref b65), .unset, .unset, .unset, .unset, .unset, .unset, .unset, .unset, .unset, .unset, .unset, .unset, .unset] [(.int vg), (.int (0 : Int32)), (.long (0 : Int64)), (.ref b65)])) rfl (by rw [hml]; rfl) (Steps.refl _) (argsL := [(.long (0 : Int64)), (.int (0 : Int32)), (.int vg)]) (rest := []) (lenOf pd__JII_V rfl) rfl (by show 2 * 0 + _ ≤ _; exact Nat.le_of_eq rfl) (hb hby at_69) (fun _ _ => ⟨rfl, e66, (by decide : 1 + 0 ≤ _), (by decide : 3 + 0 ≤ _)⟩)
  dsimp only [Pt.U, Pt.locs, Pt.cells, Pt.slots] at X67 l67 y67 z67 st67 hQ67
  subst l67 y67 z67
  obtain ⟨h67, e67⟩ : ∃ h, T67.heap = h := ⟨_, rfl⟩
  rw [e67] at hQ67
  obtain ⟨rfl, Nq67, Kq67, E1_67, Fw1_67, Fb1_67, Fh1_67⟩ := hQ67
  have N67 := Fr.app N66 Nq67
  have Z67 : n0 ≤ h67.size := Nat.le_trans Z65 Kq67.1
  have Fh1_67 : Fld Z h67 b65 "com/example/termvault/termvault/FieldLengths$Tally" "holders" "J" (.long (1 : Int64)) := Fh1_67
  refine Go.trans st67 ?_
  show Go _ _ _ _ _ _ _ T67 (mkF m 72 #[.val (.int ia), .val (.int ib), .val (.int ic), .val (.int id), .val (.int ie), .val (.long jh), .second, .val (.int vg), .val (.int vg2), .val (.int vwb), .val (.int vwa), .val (.int vwc), .val (.long vh), .second, .val (.ref b65), .unset, .unset, .unset, .unset, .unset, .unset, .unset, .unset, .unset, .unset, .unset, .unset, .unset] [])
  refine Go.step (fun _ k => XS.aload X67.here hx rfl (hb hby at_72) rfl rfl k) ?_
  show Go _ _ _ _ _ _ _ T67 (mkF m 74 #[.val (.int ia), .val (.int ib), .val (.int ic), .val (.int id), .val (.int ie), .val (.long jh), .second, .val (.int vg), .val (.int vg2), .val (.int vwb), .val (.int vwa), .val (.int vwc), .val (.long vh), .second, .val (.ref b65), .unset, .unset, .unset, .unset, .unset, .unset, .unset, .unset, .unset, .unset, .unset, .unset, .unset] [(.ref b65)])
  refine Go.step (fun _ k => XS.lload X67.here hx rfl (hb hby at_74) rfl k) ?_
  show Go _ _ _ _ _ _ _ T67 (mkF m 76 #[.val (.int ia), .val (.int ib), .val (.int ic), .val (.int id), .val (.int ie), .val (.long jh), .second, .val (.int vg), .val (.int vg2), .val (.int vwb), .val (.int vwa), .val (.int vwc), .val (.long vh), .second, .val (.ref b65), .unset, .unset, .unset, .unset, .unset, .unset, .unset, .unset, .unset, .unset, .unset, .unset, .unset] [(.long vh), (.ref b65)])
  refine Go.step (fun _ k => XS.iload X67.here hx rfl (hb hby at_76) rfl k) ?_
  show Go _ _ _ _ _ _ _ T67 (mkF m 78 #[.val (.int ia), .val (.int ib), .val (.int ic), .val (.int id), .val (.int ie), .val (.long jh), .second, .val (.int vg), .val (.int vg2), .val (.int vwb), .val (.int vwa), .val (.int vwc), .val (.long vh), .second, .val (.ref b65), .unset, .unset, .unset, .unset, .unset, .unset, .unset, .unset, .unset, .unset, .unset, .unset, .unset] [(.int vwb), (.long vh), (.ref b65)])
  refine Go.step (fun _ k => XS.iload X67.here hx rfl (hb hby at_78) rfl k) ?_
  show Go _ _ _ _ _ _ _ T67 (mkF m 80 #[.val (.int ia), .val (.int ib), .val (.int ic), .val (.int id), .val (.int ie), .val (.long jh), .second, .val (.int vg), .val (.int vg2), .val (.int vwb), .val (.int vwa), .val (.int vwc), .val (.long vh), .second, .val (.ref b65), .unset, .unset, .unset, .unset, .unset, .unset, .unset, .unset, .unset, .unset, .unset, .unset, .unset] [(.int vwa), (.int vwb), (.long vh), (.ref b65)])
  obtain ⟨cq68, kq68, q68a, q68b, q68c⟩ := isOf hZ e67 E1_67
  obtain ⟨_, _, ⟨T68, L68, k68, n68⟩, -, X68, ⟨Lc68, hQ68, l68, y68, z68⟩, st68⟩ := X67.virtualBack hx (y := (⟨"com/example/termvault/termvault/FieldLengths$Tally", "add", "(JII)V"⟩ : MethodName)) (z := (⟨"com/example/termvault/termvault/FieldLengths$Tally", "add", "(JII)V"⟩ : MethodName)) hown (mvT hZ (hw _ (List.mem_of_getElem? (i := 10) rfl))) (mvT hZ (hw _ (List.mem_of_getElem? (i := 11) rfl))) (notFace_of_selects (args := #[]) (mvT hZ (hw _ (List.mem_of_getElem? (i := 13) rfl)))) (mvT hZ (hw _ (List.mem_of_getElem? (i := 13) rfl))) (mvT hZ (hw _ (List.mem_of_getElem? (i := 12) rfl))) (by decide) (backOf (W := 0) (rmAd l Z a0 hw [] b65 vh vwb vwa ((0 : Int64) + (vg - (0 : Int32)).toInt64) ((0 : Int64) + ((((0 : Int64) + (1 : Int64)) * vg.toInt64) - ((0 : Int64) * (0 : Int32).toInt64))) (1 : Int64) h67 n0 Z67 E1_67 Fw1_67 Fb1_67 Fh1_67 g_b65) hZ (hw _ (List.mem_of_getElem? (i := 14) rfl)) (hw _ (List.mem_of_getElem? (i := 3) rfl)) (by decide) (by decide)) q68a q68c (g := (mkF m 80 #[.val (.int ia), .val (.int ib), .val (.int ic), .val (.int id), .val (.int ie), .val (.long jh), .second, .val (.int vg), .val (.int vg2), .val (.int vwb), .val (.int vwa), .val (.int vwc), .val (.long vh), .second, .val (.ref b65), .unset, .unset, .unset, .unset, .unset, .unset, .unset, .unset, .unset, .unset, .unset, .unset, .unset] [(.int vwa), (.int vwb), (.long vh), (.ref b65)])) rfl (by rw [hml]; rfl) (Steps.refl _) (argsL := [(.long vh), (.int vwb), (.int vwa)]) (rest := []) (lenOf pd__JII_V rfl) rfl (by show 2 * 0 + _ ≤ _; exact Nat.le_of_eq rfl) (hb hby at_80) (fun _ _ => ⟨rfl, e67, (by decide : 1 + 0 ≤ _), (by decide : 3 + 0 ≤ _)⟩)
  dsimp only [Pt.U, Pt.locs, Pt.cells, Pt.slots] at X68 l68 y68 z68 st68 hQ68
  subst l68 y68 z68
  obtain ⟨h68, e68⟩ : ∃ h, T68.heap = h := ⟨_, rfl⟩
  rw [e68] at hQ68
  obtain ⟨rfl, Nq68, Kq68, E1_68, Fw1_68, Fb1_68, Fh1_68⟩ := hQ68
  have N68 := Fr.app N67 Nq68
  have Z68 : n0 ≤ h68.size := Nat.le_trans Z67 Kq68.1
  have Fh1_68 : Fld Z h68 b65 "com/example/termvault/termvault/FieldLengths$Tally" "holders" "J" (.long (2 : Int64)) := Fh1_68
  refine Go.trans st68 ?_
  show Go _ _ _ _ _ _ _ T68 (mkF m 83 #[.val (.int ia), .val (.int ib), .val (.int ic), .val (.int id), .val (.int ie), .val (.long jh), .second, .val (.int vg), .val (.int vg2), .val (.int vwb), .val (.int vwa), .val (.int vwc), .val (.long vh), .second, .val (.ref b65), .unset, .unset, .unset, .unset, .unset, .unset, .unset, .unset, .unset, .unset, .unset, .unset, .unset] [])
  refine Go.step (fun _ k => XS.aload X68.here hx rfl (hb hby at_83) rfl rfl k) ?_
  show Go _ _ _ _ _ _ _ T68 (mkF m 85 #[.val (.int ia), .val (.int ib), .val (.int ic), .val (.int id), .val (.int ie), .val (.long jh), .second, .val (.int vg), .val (.int vg2), .val (.int vwb), .val (.int vwa), .val (.int vwc), .val (.long vh), .second, .val (.ref b65), .unset, .unset, .unset, .unset, .unset, .unset, .unset, .unset, .unset, .unset, .unset, .unset, .unset] [(.ref b65)])
  refine Go.step (fun _ k => XS.lconst X68.here hx rfl (hb hby at_85) k) ?_
  show Go _ _ _ _ _ _ _ T68 (mkF m 86 #[.val (.int ia), .val (.int ib), .val (.int ic), .val (.int id), .val (.int ie), .val (.long jh), .second, .val (.int vg), .val (.int vg2), .val (.int vwb), .val (.int vwa), .val (.int vwc), .val (.long vh), .second, .val (.ref b65), .unset, .unset, .unset, .unset, .unset, .unset, .unset, .unset, .unset, .unset, .unset, .unset, .unset] [(.long (1 : Int64)), (.ref b65)])
  refine Go.step (fun _ k => XS.iload X68.here hx rfl (hb hby at_86) rfl k) ?_
  show Go _ _ _ _ _ _ _ T68 (mkF m 88 #[.val (.int ia), .val (.int ib), .val (.int ic), .val (.int id), .val (.int ie), .val (.long jh), .second, .val (.int vg), .val (.int vg2), .val (.int vwb), .val (.int vwa), .val (.int vwc), .val (.long vh), .second, .val (.ref b65), .unset, .unset, .unset, .unset, .unset, .unset, .unset, .unset, .unset, .unset, .unset, .unset, .unset] [(.int vg), (.long (1 : Int64)), (.ref b65)])
  refine Go.step (fun _ k => XS.iload X68.here hx rfl (hb hby at_88) rfl k) ?_
  show Go _ _ _ _ _ _ _ T68 (mkF m 90 #[.val (.int ia), .val (.int ib), .val (.int ic), .val (.int id), .val (.int ie), .val (.long jh), .second, .val (.int vg), .val (.int vg2), .val (.int vwb), .val (.int vwa), .val (.int vwc), .val (.long vh), .second, .val (.ref b65), .unset, .unset, .unset, .unset, .unset, .unset, .unset, .unset, .unset, .unset, .unset, .unset, .unset] [(.int vg2), (.int vg), (.long (1 : Int64)), (.ref b65)])
  obtain ⟨cq69, kq69, q69a, q69b, q69c⟩ := isOf hZ e68 E1_68
  obtain ⟨_, _, ⟨T69, L69, k69, n69⟩, -, X69, ⟨Lc69, hQ69, l69, y69, z69⟩, st69⟩ := X68.virtualBack hx (y := (⟨"com/example/termvault/termvault/FieldLengths$Tally", "add", "(JII)V"⟩ : MethodName)) (z := (⟨"com/example/termvault/termvault/FieldLengths$Tally", "add", "(JII)V"⟩ : MethodName)) hown (mvT hZ (hw _ (List.mem_of_getElem? (i := 10) rfl))) (mvT hZ (hw _ (List.mem_of_getElem? (i := 11) rfl))) (notFace_of_selects (args := #[]) (mvT hZ (hw _ (List.mem_of_getElem? (i := 13) rfl)))) (mvT hZ (hw _ (List.mem_of_getElem? (i := 13) rfl))) (mvT hZ (hw _ (List.mem_of_getElem? (i := 12) rfl))) (by decide) (backOf (W := 0) (rmAd l Z a0 hw [] b65 (1 : Int64) vg vg2 (((0 : Int64) + (vg - (0 : Int32)).toInt64) + (vwa - vwb).toInt64) (((0 : Int64) + ((((0 : Int64) + (1 : Int64)) * vg.toInt64) - ((0 : Int64) * (0 : Int32).toInt64))) + (((vh + (1 : Int64)) * vwa.toInt64) - (vh * vwb.toInt64))) (2 : Int64) h68 n0 Z68 E1_68 Fw1_68 Fb1_68 Fh1_68 g_b65) hZ (hw _ (List.mem_of_getElem? (i := 14) rfl)) (hw _ (List.mem_of_getElem? (i := 3) rfl)) (by decide) (by decide)) q69a q69c (g := (mkF m 90 #[.val (.int ia), .val (.int ib), .val (.int ic), .val (.int id), .val (.int ie), .val (.long jh), .second, .val (.int vg), .val (.int vg2), .val (.int vwb), .val (.int vwa), .val (.int vwc), .val (.long vh), .second, .val (.ref b65), .unset, .unset, .unset, .unset, .unset, .unset, .unset, .unset, .unset, .unset, .unset, .unset, .unset] [(.int vg2), (.int vg), (.long (1 : Int64)), (.ref b65)])) rfl (by rw [hml]; rfl) (Steps.refl _) (argsL := [(.long (1 : Int64)), (.int vg), (.int vg2)]) (rest := []) (lenOf pd__JII_V rfl) rfl (by show 2 * 0 + _ ≤ _; exact Nat.le_of_eq rfl) (hb hby at_90) (fun _ _ => ⟨rfl, e68, (by decide : 1 + 0 ≤ _), (by decide : 3 + 0 ≤ _)⟩)
  dsimp only [Pt.U, Pt.locs, Pt.cells, Pt.slots] at X69 l69 y69 z69 st69 hQ69
  subst l69 y69 z69
  obtain ⟨h69, e69⟩ : ∃ h, T69.heap = h := ⟨_, rfl⟩
  rw [e69] at hQ69
  obtain ⟨rfl, Nq69, Kq69, E1_69, Fw1_69, Fb1_69, Fh1_69⟩ := hQ69
  have N69 := Fr.app N68 Nq69
  have Z69 : n0 ≤ h69.size := Nat.le_trans Z68 Kq69.1
  have Fh1_69 : Fld Z h69 b65 "com/example/termvault/termvault/FieldLengths$Tally" "holders" "J" (.long (3 : Int64)) := Fh1_69
  refine Go.trans st69 ?_
  show Go _ _ _ _ _ _ _ T69 (mkF m 93 #[.val (.int ia), .val (.int ib), .val (.int ic), .val (.int id), .val (.int ie), .val (.long jh), .second, .val (.int vg), .val (.int vg2), .val (.int vwb), .val (.int vwa), .val (.int vwc), .val (.long vh), .second, .val (.ref b65), .unset, .unset, .unset, .unset, .unset, .unset, .unset, .unset, .unset, .unset, .unset, .unset, .unset] [])
  refine Go.step (fun _ k => XS.aload X69.here hx rfl (hb hby at_93) rfl rfl k) ?_
  show Go _ _ _ _ _ _ _ T69 (mkF m 95 #[.val (.int ia), .val (.int ib), .val (.int ic), .val (.int id), .val (.int ie), .val (.long jh), .second, .val (.int vg), .val (.int vg2), .val (.int vwb), .val (.int vwa), .val (.int vwc), .val (.long vh), .second, .val (.ref b65), .unset, .unset, .unset, .unset, .unset, .unset, .unset, .unset, .unset, .unset, .unset, .unset, .unset] [(.ref b65)])
  refine Go.step (fun _ k => XS.lload X69.here hx rfl (hb hby at_95) rfl k) ?_
  show Go _ _ _ _ _ _ _ T69 (mkF m 97 #[.val (.int ia), .val (.int ib), .val (.int ic), .val (.int id), .val (.int ie), .val (.long jh), .second, .val (.int vg), .val (.int vg2), .val (.int vwb), .val (.int vwa), .val (.int vwc), .val (.long vh), .second, .val (.ref b65), .unset, .unset, .unset, .unset, .unset, .unset, .unset, .unset, .unset, .unset, .unset, .unset, .unset] [(.long vh), (.ref b65)])
  refine Go.step (fun _ k => XS.lconst X69.here hx rfl (hb hby at_97) k) ?_
  show Go _ _ _ _ _ _ _ T69 (mkF m 98 #[.val (.int ia), .val (.int ib), .val (.int ic), .val (.int id), .val (.int ie), .val (.long jh), .second, .val (.int vg), .val (.int vg2), .val (.int vwb), .val (.int vwa), .val (.int vwc), .val (.long vh), .second, .val (.ref b65), .unset, .unset, .unset, .unset, .unset, .unset, .unset, .unset, .unset, .unset, .unset, .unset, .unset] [(.long (1 : Int64)), (.long vh), (.ref b65)])
  refine Go.step (fun _ k => XS.ladd X69.here hx rfl (hb hby at_98) rfl k) ?_
  show Go _ _ _ _ _ _ _ T69 (mkF m 99 #[.val (.int ia), .val (.int ib), .val (.int ic), .val (.int id), .val (.int ie), .val (.long jh), .second, .val (.int vg), .val (.int vg2), .val (.int vwb), .val (.int vwa), .val (.int vwc), .val (.long vh), .second, .val (.ref b65), .unset, .unset, .unset, .unset, .unset, .unset, .unset, .unset, .unset, .unset, .unset, .unset, .unset] [(.long (vh + (1 : Int64))), (.ref b65)])
  refine Go.step (fun _ k => XS.iload X69.here hx rfl (hb hby at_99) rfl k) ?_
  show Go _ _ _ _ _ _ _ T69 (mkF m 101 #[.val (.int ia), .val (.int ib), .val (.int ic), .val (.int id), .val (.int ie), .val (.long jh), .second, .val (.int vg), .val (.int vg2), .val (.int vwb), .val (.int vwa), .val (.int vwc), .val (.long vh), .second, .val (.ref b65), .unset, .unset, .unset, .unset, .unset, .unset, .unset, .unset, .unset, .unset, .unset, .unset, .unset] [(.int vwa), (.long (vh + (1 : Int64))), (.ref b65)])
  refine Go.step (fun _ k => XS.iload X69.here hx rfl (hb hby at_101) rfl k) ?_
  show Go _ _ _ _ _ _ _ T69 (mkF m 103 #[.val (.int ia), .val (.int ib), .val (.int ic), .val (.int id), .val (.int ie), .val (.long jh), .second, .val (.int vg), .val (.int vg2), .val (.int vwb), .val (.int vwa), .val (.int vwc), .val (.long vh), .second, .val (.ref b65), .unset, .unset, .unset, .unset, .unset, .unset, .unset, .unset, .unset, .unset, .unset, .unset, .unset] [(.int vwc), (.int vwa), (.long (vh + (1 : Int64))), (.ref b65)])
  obtain ⟨cq70, kq70, q70a, q70b, q70c⟩ := isOf hZ e69 E1_69
  obtain ⟨_, _, ⟨T70, L70, k70, n70⟩, -, X70, ⟨Lc70, hQ70, l70, y70, z70⟩, st70⟩ := X69.virtualBack hx (y := (⟨"com/example/termvault/termvault/FieldLengths$Tally", "add", "(JII)V"⟩ : MethodName)) (z := (⟨"com/example/termvault/termvault/FieldLengths$Tally", "add", "(JII)V"⟩ : MethodName)) hown (mvT hZ (hw _ (List.mem_of_getElem? (i := 10) rfl))) (mvT hZ (hw _ (List.mem_of_getElem? (i := 11) rfl))) (notFace_of_selects (args := #[]) (mvT hZ (hw _ (List.mem_of_getElem? (i := 13) rfl)))) (mvT hZ (hw _ (List.mem_of_getElem? (i := 13) rfl))) (mvT hZ (hw _ (List.mem_of_getElem? (i := 12) rfl))) (by decide) (backOf (W := 0) (rmAd l Z a0 hw [] b65 (vh + (1 : Int64)) vwa vwc ((((0 : Int64) + (vg - (0 : Int32)).toInt64) + (vwa - vwb).toInt64) + (vg2 - vg).toInt64) ((((0 : Int64) + ((((0 : Int64) + (1 : Int64)) * vg.toInt64) - ((0 : Int64) * (0 : Int32).toInt64))) + (((vh + (1 : Int64)) * vwa.toInt64) - (vh * vwb.toInt64))) + ((((1 : Int64) + (1 : Int64)) * vg2.toInt64) - ((1 : Int64) * vg.toInt64))) (3 : Int64) h69 n0 Z69 E1_69 Fw1_69 Fb1_69 Fh1_69 g_b65) hZ (hw _ (List.mem_of_getElem? (i := 14) rfl)) (hw _ (List.mem_of_getElem? (i := 3) rfl)) (by decide) (by decide)) q70a q70c (g := (mkF m 103 #[.val (.int ia), .val (.int ib), .val (.int ic), .val (.int id), .val (.int ie), .val (.long jh), .second, .val (.int vg), .val (.int vg2), .val (.int vwb), .val (.int vwa), .val (.int vwc), .val (.long vh), .second, .val (.ref b65), .unset, .unset, .unset, .unset, .unset, .unset, .unset, .unset, .unset, .unset, .unset, .unset, .unset] [(.int vwc), (.int vwa), (.long (vh + (1 : Int64))), (.ref b65)])) rfl (by rw [hml]; rfl) (Steps.refl _) (argsL := [(.long (vh + (1 : Int64))), (.int vwa), (.int vwc)]) (rest := []) (lenOf pd__JII_V rfl) rfl (by show 2 * 0 + _ ≤ _; exact Nat.le_of_eq rfl) (hb hby at_103) (fun _ _ => ⟨rfl, e69, (by decide : 1 + 0 ≤ _), (by decide : 3 + 0 ≤ _)⟩)
  dsimp only [Pt.U, Pt.locs, Pt.cells, Pt.slots] at X70 l70 y70 z70 st70 hQ70
  subst l70 y70 z70
  obtain ⟨h70, e70⟩ : ∃ h, T70.heap = h := ⟨_, rfl⟩
  rw [e70] at hQ70
  obtain ⟨rfl, Nq70, Kq70, E1_70, Fw1_70, Fb1_70, Fh1_70⟩ := hQ70
  have N70 := Fr.app N69 Nq70
  have Z70 : n0 ≤ h70.size := Nat.le_trans Z69 Kq70.1
  have Fh1_70 : Fld Z h70 b65 "com/example/termvault/termvault/FieldLengths$Tally" "holders" "J" (.long (4 : Int64)) := Fh1_70
  refine Go.trans st70 ?_
  show Go _ _ _ _ _ _ _ T70 (mkF m 106 #[.val (.int ia), .val (.int ib), .val (.int ic), .val (.int id), .val (.int ie), .val (.long jh), .second, .val (.int vg), .val (.int vg2), .val (.int vwb), .val (.int vwa), .val (.int vwc), .val (.long vh), .second, .val (.ref b65), .unset, .unset, .unset, .unset, .unset, .unset, .unset, .unset, .unset, .unset, .unset, .unset, .unset] [])
  have qz : (0 : Int32).toInt = 0 := rfl
  have qz' : (0 : Int32).toInt64 = 0 := by decide
  have eW : (((((0 : Int64) + (vg - (0 : Int32)).toInt64) + (vwa - vwb).toInt64) + (vg2 - vg).toInt64) + (vwc - vwa).toInt64) = ((vg2.toInt64 + vwc.toInt64) - vwb.toInt64) := by rw [own_sub b_vg (by rw [qz]; decide), own_sub b_vwa b_vwb, own_sub b_vg2 b_vg, own_sub b_vwc b_vwa, qz']; exact own_w _ _ _ _ _
  have eB : (((((0 : Int64) + ((((0 : Int64) + (1 : Int64)) * vg.toInt64) - ((0 : Int64) * (0 : Int32).toInt64))) + (((vh + (1 : Int64)) * vwa.toInt64) - (vh * vwb.toInt64))) + ((((1 : Int64) + (1 : Int64)) * vg2.toInt64) - ((1 : Int64) * vg.toInt64))) + ((((vh + (1 : Int64)) + (1 : Int64)) * vwc.toInt64) - ((vh + (1 : Int64)) * vwa.toInt64))) = ((((2 : Int64) * vg2.toInt64) + ((vh + (2 : Int64)) * vwc.toInt64)) - (vh * vwb.toInt64)) := by rw [qz']; exact own_hb _ _ _ _ _ _
  have eH : (4 : Int64) = (4 : Int64) := by decide
  rw [eW] at Fw1_70
  rw [eB] at Fb1_70
  rw [eH] at Fh1_70
  refine Go.step (fun _ k => XS.iload X70.here hx rfl (hb hby at_106) rfl k) ?_
  show Go _ _ _ _ _ _ _ T70 (mkF m 108 #[.val (.int ia), .val (.int ib), .val (.int ic), .val (.int id), .val (.int ie), .val (.long jh), .second, .val (.int vg), .val (.int vg2), .val (.int vwb), .val (.int vwa), .val (.int vwc), .val (.long vh), .second, .val (.ref b65), .unset, .unset, .unset, .unset, .unset, .unset, .unset, .unset, .unset, .unset, .unset, .unset, .unset] [(.int vg2)])
  refine Go.step (fun _ k => XS.i2l X70.here hx rfl (hb hby at_108) rfl k) ?_
  show Go _ _ _ _ _ _ _ T70 (mkF m 109 #[.val (.int ia), .val (.int ib), .val (.int ic), .val (.int id), .val (.int ie), .val (.long jh), .second, .val (.int vg), .val (.int vg2), .val (.int vwb), .val (.int vwa), .val (.int vwc), .val (.long vh), .second, .val (.ref b65), .unset, .unset, .unset, .unset, .unset, .unset, .unset, .unset, .unset, .unset, .unset, .unset, .unset] [(.long (vg2.toInt64))])
  refine Go.step (fun _ k => XS.iload X70.here hx rfl (hb hby at_109) rfl k) ?_
  show Go _ _ _ _ _ _ _ T70 (mkF m 111 #[.val (.int ia), .val (.int ib), .val (.int ic), .val (.int id), .val (.int ie), .val (.long jh), .second, .val (.int vg), .val (.int vg2), .val (.int vwb), .val (.int vwa), .val (.int vwc), .val (.long vh), .second, .val (.ref b65), .unset, .unset, .unset, .unset, .unset, .unset, .unset, .unset, .unset, .unset, .unset, .unset, .unset] [(.int vwc), (.long (vg2.toInt64))])
  refine Go.step (fun _ k => XS.i2l X70.here hx rfl (hb hby at_111) rfl k) ?_
  show Go _ _ _ _ _ _ _ T70 (mkF m 112 #[.val (.int ia), .val (.int ib), .val (.int ic), .val (.int id), .val (.int ie), .val (.long jh), .second, .val (.int vg), .val (.int vg2), .val (.int vwb), .val (.int vwa), .val (.int vwc), .val (.long vh), .second, .val (.ref b65), .unset, .unset, .unset, .unset, .unset, .unset, .unset, .unset, .unset, .unset, .unset, .unset, .unset] [(.long (vwc.toInt64)), (.long (vg2.toInt64))])
  refine Go.step (fun _ k => XS.ladd X70.here hx rfl (hb hby at_112) rfl k) ?_
  show Go _ _ _ _ _ _ _ T70 (mkF m 113 #[.val (.int ia), .val (.int ib), .val (.int ic), .val (.int id), .val (.int ie), .val (.long jh), .second, .val (.int vg), .val (.int vg2), .val (.int vwb), .val (.int vwa), .val (.int vwc), .val (.long vh), .second, .val (.ref b65), .unset, .unset, .unset, .unset, .unset, .unset, .unset, .unset, .unset, .unset, .unset, .unset, .unset] [(.long ((vg2.toInt64) + (vwc.toInt64)))])
  refine Go.step (fun _ k => XS.iload X70.here hx rfl (hb hby at_113) rfl k) ?_
  show Go _ _ _ _ _ _ _ T70 (mkF m 115 #[.val (.int ia), .val (.int ib), .val (.int ic), .val (.int id), .val (.int ie), .val (.long jh), .second, .val (.int vg), .val (.int vg2), .val (.int vwb), .val (.int vwa), .val (.int vwc), .val (.long vh), .second, .val (.ref b65), .unset, .unset, .unset, .unset, .unset, .unset, .unset, .unset, .unset, .unset, .unset, .unset, .unset] [(.int vwb), (.long ((vg2.toInt64) + (vwc.toInt64)))])
  refine Go.step (fun _ k => XS.i2l X70.here hx rfl (hb hby at_115) rfl k) ?_
  show Go _ _ _ _ _ _ _ T70 (mkF m 116 #[.val (.int ia), .val (.int ib), .val (.int ic), .val (.int id), .val (.int ie), .val (.long jh), .second, .val (.int vg), .val (.int vg2), .val (.int vwb), .val (.int vwa), .val (.int vwc), .val (.long vh), .second, .val (.ref b65), .unset, .unset, .unset, .unset, .unset, .unset, .unset, .unset, .unset, .unset, .unset, .unset, .unset] [(.long (vwb.toInt64)), (.long ((vg2.toInt64) + (vwc.toInt64)))])
  refine Go.step (fun _ k => XS.lsub X70.here hx rfl (hb hby at_116) rfl k) ?_
  show Go _ _ _ _ _ _ _ T70 (mkF m 117 #[.val (.int ia), .val (.int ib), .val (.int ic), .val (.int id), .val (.int ie), .val (.long jh), .second, .val (.int vg), .val (.int vg2), .val (.int vwb), .val (.int vwa), .val (.int vwc), .val (.long vh), .second, .val (.ref b65), .unset, .unset, .unset, .unset, .unset, .unset, .unset, .unset, .unset, .unset, .unset, .unset, .unset] [(.long (((vg2.toInt64) + (vwc.toInt64)) - (vwb.toInt64)))])
  refine Go.step (fun _ k => XS.lstore X70.here hx rfl (hb hby at_117) rfl (l' := #[.val (.int ia), .val (.int ib), .val (.int ic), .val (.int id), .val (.int ie), .val (.long jh), .second, .val (.int vg), .val (.int vg2), .val (.int vwb), .val (.int vwa), .val (.int vwc), .val (.long vh), .second, .val (.ref b65), .val (.long (((vg2.toInt64) + (vwc.toInt64)) - (vwb.toInt64))), .second, .unset, .unset, .unset, .unset, .unset, .unset, .unset, .unset, .unset, .unset, .unset]) rfl k) ?_
  show Go _ _ _ _ _ _ _ T70 (mkF m 119 #[.val (.int ia), .val (.int ib), .val (.int ic), .val (.int id), .val (.int ie), .val (.long jh), .second, .val (.int vg), .val (.int vg2), .val (.int vwb), .val (.int vwa), .val (.int vwc), .val (.long vh), .second, .val (.ref b65), .val (.long (((vg2.toInt64) + (vwc.toInt64)) - (vwb.toInt64))), .second, .unset, .unset, .unset, .unset, .unset, .unset, .unset, .unset, .unset, .unset, .unset] [])
  refine Go.step (X70.ldc2Long hx hown (mvT hZ (hw _ (List.mem_of_getElem? (i := 21) rfl))) (g := (mkF m 119 #[.val (.int ia), .val (.int ib), .val (.int ic), .val (.int id), .val (.int ie), .val (.long jh), .second, .val (.int vg), .val (.int vg2), .val (.int vwb), .val (.int vwa), .val (.int vwc), .val (.long vh), .second, .val (.ref b65), .val (.long (((vg2.toInt64) + (vwc.toInt64)) - (vwb.toInt64))), .second, .unset, .unset, .unset, .unset, .unset, .unset, .unset, .unset, .unset, .unset, .unset] [])) rfl (hb hby at_119)) ?_
  show Go _ _ _ _ _ _ _ T70 (mkF m 122 #[.val (.int ia), .val (.int ib), .val (.int ic), .val (.int id), .val (.int ie), .val (.long jh), .second, .val (.int vg), .val (.int vg2), .val (.int vwb), .val (.int vwa), .val (.int vwc), .val (.long vh), .second, .val (.ref b65), .val (.long (((vg2.toInt64) + (vwc.toInt64)) - (vwb.toInt64))), .second, .unset, .unset, .unset, .unset, .unset, .unset, .unset, .unset, .unset, .unset, .unset] [(.long (2 : Int64))])
  refine Go.step (fun _ k => XS.iload X70.here hx rfl (hb hby at_122) rfl k) ?_
  show Go _ _ _ _ _ _ _ T70 (mkF m 124 #[.val (.int ia), .val (.int ib), .val (.int ic), .val (.int id), .val (.int ie), .val (.long jh), .second, .val (.int vg), .val (.int vg2), .val (.int vwb), .val (.int vwa), .val (.int vwc), .val (.long vh), .second, .val (.ref b65), .val (.long (((vg2.toInt64) + (vwc.toInt64)) - (vwb.toInt64))), .second, .unset, .unset, .unset, .unset, .unset, .unset, .unset, .unset, .unset, .unset, .unset] [(.int vg2), (.long (2 : Int64))])
  refine Go.step (fun _ k => XS.i2l X70.here hx rfl (hb hby at_124) rfl k) ?_
  show Go _ _ _ _ _ _ _ T70 (mkF m 125 #[.val (.int ia), .val (.int ib), .val (.int ic), .val (.int id), .val (.int ie), .val (.long jh), .second, .val (.int vg), .val (.int vg2), .val (.int vwb), .val (.int vwa), .val (.int vwc), .val (.long vh), .second, .val (.ref b65), .val (.long (((vg2.toInt64) + (vwc.toInt64)) - (vwb.toInt64))), .second, .unset, .unset, .unset, .unset, .unset, .unset, .unset, .unset, .unset, .unset, .unset] [(.long (vg2.toInt64)), (.long (2 : Int64))])
  refine Go.step (fun _ k => XS.lmul X70.here hx rfl (hb hby at_125) rfl k) ?_
  show Go _ _ _ _ _ _ _ T70 (mkF m 126 #[.val (.int ia), .val (.int ib), .val (.int ic), .val (.int id), .val (.int ie), .val (.long jh), .second, .val (.int vg), .val (.int vg2), .val (.int vwb), .val (.int vwa), .val (.int vwc), .val (.long vh), .second, .val (.ref b65), .val (.long (((vg2.toInt64) + (vwc.toInt64)) - (vwb.toInt64))), .second, .unset, .unset, .unset, .unset, .unset, .unset, .unset, .unset, .unset, .unset, .unset] [(.long ((2 : Int64) * (vg2.toInt64)))])
  refine Go.step (fun _ k => XS.lload X70.here hx rfl (hb hby at_126) rfl k) ?_
  show Go _ _ _ _ _ _ _ T70 (mkF m 128 #[.val (.int ia), .val (.int ib), .val (.int ic), .val (.int id), .val (.int ie), .val (.long jh), .second, .val (.int vg), .val (.int vg2), .val (.int vwb), .val (.int vwa), .val (.int vwc), .val (.long vh), .second, .val (.ref b65), .val (.long (((vg2.toInt64) + (vwc.toInt64)) - (vwb.toInt64))), .second, .unset, .unset, .unset, .unset, .unset, .unset, .unset, .unset, .unset, .unset, .unset] [(.long vh), (.long ((2 : Int64) * (vg2.toInt64)))])
  refine Go.step (X70.ldc2Long hx hown (mvT hZ (hw _ (List.mem_of_getElem? (i := 21) rfl))) (g := (mkF m 128 #[.val (.int ia), .val (.int ib), .val (.int ic), .val (.int id), .val (.int ie), .val (.long jh), .second, .val (.int vg), .val (.int vg2), .val (.int vwb), .val (.int vwa), .val (.int vwc), .val (.long vh), .second, .val (.ref b65), .val (.long (((vg2.toInt64) + (vwc.toInt64)) - (vwb.toInt64))), .second, .unset, .unset, .unset, .unset, .unset, .unset, .unset, .unset, .unset, .unset, .unset] [(.long vh), (.long ((2 : Int64) * (vg2.toInt64)))])) rfl (hb hby at_128)) ?_
  show Go _ _ _ _ _ _ _ T70 (mkF m 131 #[.val (.int ia), .val (.int ib), .val (.int ic), .val (.int id), .val (.int ie), .val (.long jh), .second, .val (.int vg), .val (.int vg2), .val (.int vwb), .val (.int vwa), .val (.int vwc), .val (.long vh), .second, .val (.ref b65), .val (.long (((vg2.toInt64) + (vwc.toInt64)) - (vwb.toInt64))), .second, .unset, .unset, .unset, .unset, .unset, .unset, .unset, .unset, .unset, .unset, .unset] [(.long (2 : Int64)), (.long vh), (.long ((2 : Int64) * (vg2.toInt64)))])
  refine Go.step (fun _ k => XS.ladd X70.here hx rfl (hb hby at_131) rfl k) ?_
  show Go _ _ _ _ _ _ _ T70 (mkF m 132 #[.val (.int ia), .val (.int ib), .val (.int ic), .val (.int id), .val (.int ie), .val (.long jh), .second, .val (.int vg), .val (.int vg2), .val (.int vwb), .val (.int vwa), .val (.int vwc), .val (.long vh), .second, .val (.ref b65), .val (.long (((vg2.toInt64) + (vwc.toInt64)) - (vwb.toInt64))), .second, .unset, .unset, .unset, .unset, .unset, .unset, .unset, .unset, .unset, .unset, .unset] [(.long (vh + (2 : Int64))), (.long ((2 : Int64) * (vg2.toInt64)))])
  refine Go.step (fun _ k => XS.iload X70.here hx rfl (hb hby at_132) rfl k) ?_
  show Go _ _ _ _ _ _ _ T70 (mkF m 134 #[.val (.int ia), .val (.int ib), .val (.int ic), .val (.int id), .val (.int ie), .val (.long jh), .second, .val (.int vg), .val (.int vg2), .val (.int vwb), .val (.int vwa), .val (.int vwc), .val (.long vh), .second, .val (.ref b65), .val (.long (((vg2.toInt64) + (vwc.toInt64)) - (vwb.toInt64))), .second, .unset, .unset, .unset, .unset, .unset, .unset, .unset, .unset, .unset, .unset, .unset] [(.int vwc), (.long (vh + (2 : Int64))), (.long ((2 : Int64) * (vg2.toInt64)))])
  refine Go.step (fun _ k => XS.i2l X70.here hx rfl (hb hby at_134) rfl k) ?_
  show Go _ _ _ _ _ _ _ T70 (mkF m 135 #[.val (.int ia), .val (.int ib), .val (.int ic), .val (.int id), .val (.int ie), .val (.long jh), .second, .val (.int vg), .val (.int vg2), .val (.int vwb), .val (.int vwa), .val (.int vwc), .val (.long vh), .second, .val (.ref b65), .val (.long (((vg2.toInt64) + (vwc.toInt64)) - (vwb.toInt64))), .second, .unset, .unset, .unset, .unset, .unset, .unset, .unset, .unset, .unset, .unset, .unset] [(.long (vwc.toInt64)), (.long (vh + (2 : Int64))), (.long ((2 : Int64) * (vg2.toInt64)))])
  refine Go.step (fun _ k => XS.lmul X70.here hx rfl (hb hby at_135) rfl k) ?_
  show Go _ _ _ _ _ _ _ T70 (mkF m 136 #[.val (.int ia), .val (.int ib), .val (.int ic), .val (.int id), .val (.int ie), .val (.long jh), .second, .val (.int vg), .val (.int vg2), .val (.int vwb), .val (.int vwa), .val (.int vwc), .val (.long vh), .second, .val (.ref b65), .val (.long (((vg2.toInt64) + (vwc.toInt64)) - (vwb.toInt64))), .second, .unset, .unset, .unset, .unset, .unset, .unset, .unset, .unset, .unset, .unset, .unset] [(.long ((vh + (2 : Int64)) * (vwc.toInt64))), (.long ((2 : Int64) * (vg2.toInt64)))])
  refine Go.step (fun _ k => XS.ladd X70.here hx rfl (hb hby at_136) rfl k) ?_
  show Go _ _ _ _ _ _ _ T70 (mkF m 137 #[.val (.int ia), .val (.int ib), .val (.int ic), .val (.int id), .val (.int ie), .val (.long jh), .second, .val (.int vg), .val (.int vg2), .val (.int vwb), .val (.int vwa), .val (.int vwc), .val (.long vh), .second, .val (.ref b65), .val (.long (((vg2.toInt64) + (vwc.toInt64)) - (vwb.toInt64))), .second, .unset, .unset, .unset, .unset, .unset, .unset, .unset, .unset, .unset, .unset, .unset] [(.long (((2 : Int64) * (vg2.toInt64)) + ((vh + (2 : Int64)) * (vwc.toInt64))))])
  refine Go.step (fun _ k => XS.lload X70.here hx rfl (hb hby at_137) rfl k) ?_
  show Go _ _ _ _ _ _ _ T70 (mkF m 139 #[.val (.int ia), .val (.int ib), .val (.int ic), .val (.int id), .val (.int ie), .val (.long jh), .second, .val (.int vg), .val (.int vg2), .val (.int vwb), .val (.int vwa), .val (.int vwc), .val (.long vh), .second, .val (.ref b65), .val (.long (((vg2.toInt64) + (vwc.toInt64)) - (vwb.toInt64))), .second, .unset, .unset, .unset, .unset, .unset, .unset, .unset, .unset, .unset, .unset, .unset] [(.long vh), (.long (((2 : Int64) * (vg2.toInt64)) + ((vh + (2 : Int64)) * (vwc.toInt64))))])
  refine Go.step (fun _ k => XS.iload X70.here hx rfl (hb hby at_139) rfl k) ?_
  show Go _ _ _ _ _ _ _ T70 (mkF m 141 #[.val (.int ia), .val (.int ib), .val (.int ic), .val (.int id), .val (.int ie), .val (.long jh), .second, .val (.int vg), .val (.int vg2), .val (.int vwb), .val (.int vwa), .val (.int vwc), .val (.long vh), .second, .val (.ref b65), .val (.long (((vg2.toInt64) + (vwc.toInt64)) - (vwb.toInt64))), .second, .unset, .unset, .unset, .unset, .unset, .unset, .unset, .unset, .unset, .unset, .unset] [(.int vwb), (.long vh), (.long (((2 : Int64) * (vg2.toInt64)) + ((vh + (2 : Int64)) * (vwc.toInt64))))])
  refine Go.step (fun _ k => XS.i2l X70.here hx rfl (hb hby at_141) rfl k) ?_
  show Go _ _ _ _ _ _ _ T70 (mkF m 142 #[.val (.int ia), .val (.int ib), .val (.int ic), .val (.int id), .val (.int ie), .val (.long jh), .second, .val (.int vg), .val (.int vg2), .val (.int vwb), .val (.int vwa), .val (.int vwc), .val (.long vh), .second, .val (.ref b65), .val (.long (((vg2.toInt64) + (vwc.toInt64)) - (vwb.toInt64))), .second, .unset, .unset, .unset, .unset, .unset, .unset, .unset, .unset, .unset, .unset, .unset] [(.long (vwb.toInt64)), (.long vh), (.long (((2 : Int64) * (vg2.toInt64)) + ((vh + (2 : Int64)) * (vwc.toInt64))))])
  refine Go.step (fun _ k => XS.lmul X70.here hx rfl (hb hby at_142) rfl k) ?_
  show Go _ _ _ _ _ _ _ T70 (mkF m 143 #[.val (.int ia), .val (.int ib), .val (.int ic), .val (.int id), .val (.int ie), .val (.long jh), .second, .val (.int vg), .val (.int vg2), .val (.int vwb), .val (.int vwa), .val (.int vwc), .val (.long vh), .second, .val (.ref b65), .val (.long (((vg2.toInt64) + (vwc.toInt64)) - (vwb.toInt64))), .second, .unset, .unset, .unset, .unset, .unset, .unset, .unset, .unset, .unset, .unset, .unset] [(.long (vh * (vwb.toInt64))), (.long (((2 : Int64) * (vg2.toInt64)) + ((vh + (2 : Int64)) * (vwc.toInt64))))])
  refine Go.step (fun _ k => XS.lsub X70.here hx rfl (hb hby at_143) rfl k) ?_
  show Go _ _ _ _ _ _ _ T70 (mkF m 144 #[.val (.int ia), .val (.int ib), .val (.int ic), .val (.int id), .val (.int ie), .val (.long jh), .second, .val (.int vg), .val (.int vg2), .val (.int vwb), .val (.int vwa), .val (.int vwc), .val (.long vh), .second, .val (.ref b65), .val (.long (((vg2.toInt64) + (vwc.toInt64)) - (vwb.toInt64))), .second, .unset, .unset, .unset, .unset, .unset, .unset, .unset, .unset, .unset, .unset, .unset] [(.long ((((2 : Int64) * (vg2.toInt64)) + ((vh + (2 : Int64)) * (vwc.toInt64))) - (vh * (vwb.toInt64))))])
  refine Go.step (fun _ k => XS.lstore X70.here hx rfl (hb hby at_144) rfl (l' := #[.val (.int ia), .val (.int ib), .val (.int ic), .val (.int id), .val (.int ie), .val (.long jh), .second, .val (.int vg), .val (.int vg2), .val (.int vwb), .val (.int vwa), .val (.int vwc), .val (.long vh), .second, .val (.ref b65), .val (.long (((vg2.toInt64) + (vwc.toInt64)) - (vwb.toInt64))), .second, .val (.long ((((2 : Int64) * (vg2.toInt64)) + ((vh + (2 : Int64)) * (vwc.toInt64))) - (vh * (vwb.toInt64)))), .second, .unset, .unset, .unset, .unset, .unset, .unset, .unset, .unset, .unset]) rfl k) ?_
  show Go _ _ _ _ _ _ _ T70 (mkF m 146 #[.val (.int ia), .val (.int ib), .val (.int ic), .val (.int id), .val (.int ie), .val (.long jh), .second, .val (.int vg), .val (.int vg2), .val (.int vwb), .val (.int vwa), .val (.int vwc), .val (.long vh), .second, .val (.ref b65), .val (.long (((vg2.toInt64) + (vwc.toInt64)) - (vwb.toInt64))), .second, .val (.long ((((2 : Int64) * (vg2.toInt64)) + ((vh + (2 : Int64)) * (vwc.toInt64))) - (vh * (vwb.toInt64)))), .second, .unset, .unset, .unset, .unset, .unset, .unset, .unset, .unset, .unset] [])
  refine Go.step (X70.ldc2Long hx hown (mvT hZ (hw _ (List.mem_of_getElem? (i := 22) rfl))) (g := (mkF m 146 #[.val (.int ia), .val (.int ib), .val (.int ic), .val (.int id), .val (.int ie), .val (.long jh), .second, .val (.int vg), .val (.int vg2), .val (.int vwb), .val (.int vwa), .val (.int vwc), .val (.long vh), .second, .val (.ref b65), .val (.long (((vg2.toInt64) + (vwc.toInt64)) - (vwb.toInt64))), .second, .val (.long ((((2 : Int64) * (vg2.toInt64)) + ((vh + (2 : Int64)) * (vwc.toInt64))) - (vh * (vwb.toInt64)))), .second, .unset, .unset, .unset, .unset, .unset, .unset, .unset, .unset, .unset] [])) rfl (hb hby at_146)) ?_
  show Go _ _ _ _ _ _ _ T70 (mkF m 149 #[.val (.int ia), .val (.int ib), .val (.int ic), .val (.int id), .val (.int ie), .val (.long jh), .second, .val (.int vg), .val (.int vg2), .val (.int vwb), .val (.int vwa), .val (.int vwc), .val (.long vh), .second, .val (.ref b65), .val (.long (((vg2.toInt64) + (vwc.toInt64)) - (vwb.toInt64))), .second, .val (.long ((((2 : Int64) * (vg2.toInt64)) + ((vh + (2 : Int64)) * (vwc.toInt64))) - (vh * (vwb.toInt64)))), .second, .unset, .unset, .unset, .unset, .unset, .unset, .unset, .unset, .unset] [(.long (4 : Int64))])
  refine Go.step (fun _ k => XS.lstore X70.here hx rfl (hb hby at_149) rfl (l' := #[.val (.int ia), .val (.int ib), .val (.int ic), .val (.int id), .val (.int ie), .val (.long jh), .second, .val (.int vg), .val (.int vg2), .val (.int vwb), .val (.int vwa), .val (.int vwc), .val (.long vh), .second, .val (.ref b65), .val (.long (((vg2.toInt64) + (vwc.toInt64)) - (vwb.toInt64))), .second, .val (.long ((((2 : Int64) * (vg2.toInt64)) + ((vh + (2 : Int64)) * (vwc.toInt64))) - (vh * (vwb.toInt64)))), .second, .val (.long (4 : Int64)), .second, .unset, .unset, .unset, .unset, .unset, .unset, .unset]) rfl k) ?_
  show Go _ _ _ _ _ _ _ T70 (mkF m 151 #[.val (.int ia), .val (.int ib), .val (.int ic), .val (.int id), .val (.int ie), .val (.long jh), .second, .val (.int vg), .val (.int vg2), .val (.int vwb), .val (.int vwa), .val (.int vwc), .val (.long vh), .second, .val (.ref b65), .val (.long (((vg2.toInt64) + (vwc.toInt64)) - (vwb.toInt64))), .second, .val (.long ((((2 : Int64) * (vg2.toInt64)) + ((vh + (2 : Int64)) * (vwc.toInt64))) - (vh * (vwb.toInt64)))), .second, .val (.long (4 : Int64)), .second, .unset, .unset, .unset, .unset, .unset, .unset, .unset] [])
  refine Go.step (X70.ldc2Long hx hown (mvT hZ (hw _ (List.mem_of_getElem? (i := 23) rfl))) (g := (mkF m 151 #[.val (.int ia), .val (.int ib), .val (.int ic), .val (.int id), .val (.int ie), .val (.long jh), .second, .val (.int vg), .val (.int vg2), .val (.int vwb), .val (.int vwa), .val (.int vwc), .val (.long vh), .second, .val (.ref b65), .val (.long (((vg2.toInt64) + (vwc.toInt64)) - (vwb.toInt64))), .second, .val (.long ((((2 : Int64) * (vg2.toInt64)) + ((vh + (2 : Int64)) * (vwc.toInt64))) - (vh * (vwb.toInt64)))), .second, .val (.long (4 : Int64)), .second, .unset, .unset, .unset, .unset, .unset, .unset, .unset] [])) rfl (hb hby at_151)) ?_
  show Go _ _ _ _ _ _ _ T70 (mkF m 154 #[.val (.int ia), .val (.int ib), .val (.int ic), .val (.int id), .val (.int ie), .val (.long jh), .second, .val (.int vg), .val (.int vg2), .val (.int vwb), .val (.int vwa), .val (.int vwc), .val (.long vh), .second, .val (.ref b65), .val (.long (((vg2.toInt64) + (vwc.toInt64)) - (vwb.toInt64))), .second, .val (.long ((((2 : Int64) * (vg2.toInt64)) + ((vh + (2 : Int64)) * (vwc.toInt64))) - (vh * (vwb.toInt64)))), .second, .val (.long (4 : Int64)), .second, .unset, .unset, .unset, .unset, .unset, .unset, .unset] [(.long (1099511627776 : Int64))])
  refine Go.step (fun _ k => XS.lstore X70.here hx rfl (hb hby at_154) rfl (l' := #[.val (.int ia), .val (.int ib), .val (.int ic), .val (.int id), .val (.int ie), .val (.long jh), .second, .val (.int vg), .val (.int vg2), .val (.int vwb), .val (.int vwa), .val (.int vwc), .val (.long vh), .second, .val (.ref b65), .val (.long (((vg2.toInt64) + (vwc.toInt64)) - (vwb.toInt64))), .second, .val (.long ((((2 : Int64) * (vg2.toInt64)) + ((vh + (2 : Int64)) * (vwc.toInt64))) - (vh * (vwb.toInt64)))), .second, .val (.long (4 : Int64)), .second, .val (.long (1099511627776 : Int64)), .second, .unset, .unset, .unset, .unset, .unset]) rfl k) ?_
  show Go _ _ _ _ _ _ _ T70 (mkF m 156 #[.val (.int ia), .val (.int ib), .val (.int ic), .val (.int id), .val (.int ie), .val (.long jh), .second, .val (.int vg), .val (.int vg2), .val (.int vwb), .val (.int vwa), .val (.int vwc), .val (.long vh), .second, .val (.ref b65), .val (.long (((vg2.toInt64) + (vwc.toInt64)) - (vwb.toInt64))), .second, .val (.long ((((2 : Int64) * (vg2.toInt64)) + ((vh + (2 : Int64)) * (vwc.toInt64))) - (vh * (vwb.toInt64)))), .second, .val (.long (4 : Int64)), .second, .val (.long (1099511627776 : Int64)), .second, .unset, .unset, .unset, .unset, .unset] [])
  refine Go.step (X70.ldc2Long hx hown (mvT hZ (hw _ (List.mem_of_getElem? (i := 24) rfl))) (g := (mkF m 156 #[.val (.int ia), .val (.int ib), .val (.int ic), .val (.int id), .val (.int ie), .val (.long jh), .second, .val (.int vg), .val (.int vg2), .val (.int vwb), .val (.int vwa), .val (.int vwc), .val (.long vh), .second, .val (.ref b65), .val (.long (((vg2.toInt64) + (vwc.toInt64)) - (vwb.toInt64))), .second, .val (.long ((((2 : Int64) * (vg2.toInt64)) + ((vh + (2 : Int64)) * (vwc.toInt64))) - (vh * (vwb.toInt64)))), .second, .val (.long (4 : Int64)), .second, .val (.long (1099511627776 : Int64)), .second, .unset, .unset, .unset, .unset, .unset] [])) rfl (hb hby at_156)) ?_
  show Go _ _ _ _ _ _ _ T70 (mkF m 159 #[.val (.int ia), .val (.int ib), .val (.int ic), .val (.int id), .val (.int ie), .val (.long jh), .second, .val (.int vg), .val (.int vg2), .val (.int vwb), .val (.int vwa), .val (.int vwc), .val (.long vh), .second, .val (.ref b65), .val (.long (((vg2.toInt64) + (vwc.toInt64)) - (vwb.toInt64))), .second, .val (.long ((((2 : Int64) * (vg2.toInt64)) + ((vh + (2 : Int64)) * (vwc.toInt64))) - (vh * (vwb.toInt64)))), .second, .val (.long (4 : Int64)), .second, .val (.long (1099511627776 : Int64)), .second, .unset, .unset, .unset, .unset, .unset] [(.long (281474976710656 : Int64))])
  refine Go.step (fun _ k => XS.lstore X70.here hx rfl (hb hby at_159) rfl (l' := #[.val (.int ia), .val (.int ib), .val (.int ic), .val (.int id), .val (.int ie), .val (.long jh), .second, .val (.int vg), .val (.int vg2), .val (.int vwb), .val (.int vwa), .val (.int vwc), .val (.long vh), .second, .val (.ref b65), .val (.long (((vg2.toInt64) + (vwc.toInt64)) - (vwb.toInt64))), .second, .val (.long ((((2 : Int64) * (vg2.toInt64)) + ((vh + (2 : Int64)) * (vwc.toInt64))) - (vh * (vwb.toInt64)))), .second, .val (.long (4 : Int64)), .second, .val (.long (1099511627776 : Int64)), .second, .val (.long (281474976710656 : Int64)), .second, .unset, .unset, .unset]) rfl k) ?_
  show Go _ _ _ _ _ _ _ T70 (mkF m 161 #[.val (.int ia), .val (.int ib), .val (.int ic), .val (.int id), .val (.int ie), .val (.long jh), .second, .val (.int vg), .val (.int vg2), .val (.int vwb), .val (.int vwa), .val (.int vwc), .val (.long vh), .second, .val (.ref b65), .val (.long (((vg2.toInt64) + (vwc.toInt64)) - (vwb.toInt64))), .second, .val (.long ((((2 : Int64) * (vg2.toInt64)) + ((vh + (2 : Int64)) * (vwc.toInt64))) - (vh * (vwb.toInt64)))), .second, .val (.long (4 : Int64)), .second, .val (.long (1099511627776 : Int64)), .second, .val (.long (281474976710656 : Int64)), .second, .unset, .unset, .unset] [])
  refine Go.step (fun _ k => XS.aload X70.here hx rfl (hb hby at_161) rfl rfl k) ?_
  show Go _ _ _ _ _ _ _ T70 (mkF m 163 #[.val (.int ia), .val (.int ib), .val (.int ic), .val (.int id), .val (.int ie), .val (.long jh), .second, .val (.int vg), .val (.int vg2), .val (.int vwb), .val (.int vwa), .val (.int vwc), .val (.long vh), .second, .val (.ref b65), .val (.long (((vg2.toInt64) + (vwc.toInt64)) - (vwb.toInt64))), .second, .val (.long ((((2 : Int64) * (vg2.toInt64)) + ((vh + (2 : Int64)) * (vwc.toInt64))) - (vh * (vwb.toInt64)))), .second, .val (.long (4 : Int64)), .second, .val (.long (1099511627776 : Int64)), .second, .val (.long (281474976710656 : Int64)), .second, .unset, .unset, .unset] [(.ref b65)])
  refine Go.step (fun _ k => XS.lconst X70.here hx rfl (hb hby at_163) k) ?_
  show Go _ _ _ _ _ _ _ T70 (mkF m 164 #[.val (.int ia), .val (.int ib), .val (.int ic), .val (.int id), .val (.int ie), .val (.long jh), .second, .val (.int vg), .val (.int vg2), .val (.int vwb), .val (.int vwa), .val (.int vwc), .val (.long vh), .second, .val (.ref b65), .val (.long (((vg2.toInt64) + (vwc.toInt64)) - (vwb.toInt64))), .second, .val (.long ((((2 : Int64) * (vg2.toInt64)) + ((vh + (2 : Int64)) * (vwc.toInt64))) - (vh * (vwb.toInt64)))), .second, .val (.long (4 : Int64)), .second, .val (.long (1099511627776 : Int64)), .second, .val (.long (281474976710656 : Int64)), .second, .unset, .unset, .unset] [(.long (1 : Int64)), (.ref b65)])
  obtain ⟨cq71, kq71, q71a, q71b, q71c⟩ := isOf hZ e70 E1_70
  obtain ⟨_, _, ⟨T71, L71, k71, n71⟩, -, X71, ⟨Lc71, hQ71, l71, y71, z71⟩, st71⟩ := X70.virtualBack hx (y := (⟨"com/example/termvault/termvault/FieldLengths$Tally", "bound", "(J)J"⟩ : MethodName)) (z := (⟨"com/example/termvault/termvault/FieldLengths$Tally", "bound", "(J)J"⟩ : MethodName)) hown (mvT hZ (hw _ (List.mem_of_getElem? (i := 25) rfl))) (mvT hZ (hw _ (List.mem_of_getElem? (i := 26) rfl))) (notFace_of_selects (args := #[]) (mvT hZ (hw _ (List.mem_of_getElem? (i := 28) rfl)))) (mvT hZ (hw _ (List.mem_of_getElem? (i := 28) rfl))) (mvT hZ (hw _ (List.mem_of_getElem? (i := 27) rfl))) (by decide) (backOf (W := 0) (rmBo1 l Z a0 hw [] b65 ((vg2.toInt64 + vwc.toInt64) - vwb.toInt64) ((((2 : Int64) * vg2.toInt64) + ((vh + (2 : Int64)) * vwc.toInt64)) - (vh * vwb.toInt64)) (4 : Int64) h70 n0 Z70 E1_70 Fw1_70 Fb1_70 Fh1_70) hZ (hw _ (List.mem_of_getElem? (i := 29) rfl)) (hw _ (List.mem_of_getElem? (i := 3) rfl)) (by decide) (by decide)) q71a q71c (g := (mkF m 164 #[.val (.int ia), .val (.int ib), .val (.int ic), .val (.int id), .val (.int ie), .val (.long jh), .second, .val (.int vg), .val (.int vg2), .val (.int vwb), .val (.int vwa), .val (.int vwc), .val (.long vh), .second, .val (.ref b65), .val (.long (((vg2.toInt64) + (vwc.toInt64)) - (vwb.toInt64))), .second, .val (.long ((((2 : Int64) * (vg2.toInt64)) + ((vh + (2 : Int64)) * (vwc.toInt64))) - (vh * (vwb.toInt64)))), .second, .val (.long (4 : Int64)), .second, .val (.long (1099511627776 : Int64)), .second, .val (.long (281474976710656 : Int64)), .second, .unset, .unset, .unset] [(.long (1 : Int64)), (.ref b65)])) rfl (by rw [hml]; rfl) (Steps.refl _) (argsL := [(.long (1 : Int64))]) (rest := []) (lenOf pd__J_J rfl) rfl (by show 2 * 0 + _ ≤ _; exact Nat.le_of_eq rfl) (hb hby at_164) (fun _ _ => ⟨rfl, e70, (by decide : 1 + 0 ≤ _), (by decide : 3 + 0 ≤ _)⟩)
  dsimp only [Pt.U, Pt.locs, Pt.cells, Pt.slots] at X71 l71 y71 z71 st71 hQ71
  subst l71 y71 z71
  obtain ⟨h71, e71⟩ : ∃ h, T71.heap = h := ⟨_, rfl⟩
  rw [e71] at hQ71
  obtain ⟨rfl, Nq71, hs71⟩ := hQ71
  have N71 := Fr.app N70 Nq71
  rw [hs71] at e71
  refine Go.trans st71 ?_
  show Go _ _ _ _ _ _ _ T71 (mkF m 167 #[.val (.int ia), .val (.int ib), .val (.int ic), .val (.int id), .val (.int ie), .val (.long jh), .second, .val (.int vg), .val (.int vg2), .val (.int vwb), .val (.int vwa), .val (.int vwc), .val (.long vh), .second, .val (.ref b65), .val (.long (((vg2.toInt64) + (vwc.toInt64)) - (vwb.toInt64))), .second, .val (.long ((((2 : Int64) * (vg2.toInt64)) + ((vh + (2 : Int64)) * (vwc.toInt64))) - (vh * (vwb.toInt64)))), .second, .val (.long (4 : Int64)), .second, .val (.long (1099511627776 : Int64)), .second, .val (.long (281474976710656 : Int64)), .second, .unset, .unset, .unset] [(.long (own_min ((1 : Int64) * ((vg2.toInt64 + vwc.toInt64) - vwb.toInt64)) (((4 : Int64) * (0 : Int64)) + ((((2 : Int64) * vg2.toInt64) + ((vh + (2 : Int64)) * vwc.toInt64)) - (vh * vwb.toInt64)))))])
  refine Go.step (fun _ k => XS.lload X71.here hx rfl (hb hby at_167) rfl k) ?_
  show Go _ _ _ _ _ _ _ T71 (mkF m 169 #[.val (.int ia), .val (.int ib), .val (.int ic), .val (.int id), .val (.int ie), .val (.long jh), .second, .val (.int vg), .val (.int vg2), .val (.int vwb), .val (.int vwa), .val (.int vwc), .val (.long vh), .second, .val (.ref b65), .val (.long (((vg2.toInt64) + (vwc.toInt64)) - (vwb.toInt64))), .second, .val (.long ((((2 : Int64) * (vg2.toInt64)) + ((vh + (2 : Int64)) * (vwc.toInt64))) - (vh * (vwb.toInt64)))), .second, .val (.long (4 : Int64)), .second, .val (.long (1099511627776 : Int64)), .second, .val (.long (281474976710656 : Int64)), .second, .unset, .unset, .unset] [(.long (((vg2.toInt64) + (vwc.toInt64)) - (vwb.toInt64))), (.long (own_min ((1 : Int64) * ((vg2.toInt64 + vwc.toInt64) - vwb.toInt64)) (((4 : Int64) * (0 : Int64)) + ((((2 : Int64) * vg2.toInt64) + ((vh + (2 : Int64)) * vwc.toInt64)) - (vh * vwb.toInt64)))))])
  refine Go.step (fun _ k => XS.lload X71.here hx rfl (hb hby at_169) rfl k) ?_
  show Go _ _ _ _ _ _ _ T71 (mkF m 171 #[.val (.int ia), .val (.int ib), .val (.int ic), .val (.int id), .val (.int ie), .val (.long jh), .second, .val (.int vg), .val (.int vg2), .val (.int vwb), .val (.int vwa), .val (.int vwc), .val (.long vh), .second, .val (.ref b65), .val (.long (((vg2.toInt64) + (vwc.toInt64)) - (vwb.toInt64))), .second, .val (.long ((((2 : Int64) * (vg2.toInt64)) + ((vh + (2 : Int64)) * (vwc.toInt64))) - (vh * (vwb.toInt64)))), .second, .val (.long (4 : Int64)), .second, .val (.long (1099511627776 : Int64)), .second, .val (.long (281474976710656 : Int64)), .second, .unset, .unset, .unset] [(.long ((((2 : Int64) * (vg2.toInt64)) + ((vh + (2 : Int64)) * (vwc.toInt64))) - (vh * (vwb.toInt64)))), (.long (((vg2.toInt64) + (vwc.toInt64)) - (vwb.toInt64))), (.long (own_min ((1 : Int64) * ((vg2.toInt64 + vwc.toInt64) - vwb.toInt64)) (((4 : Int64) * (0 : Int64)) + ((((2 : Int64) * vg2.toInt64) + ((vh + (2 : Int64)) * vwc.toInt64)) - (vh * vwb.toInt64)))))])
  obtain ⟨_, _, ⟨T72, L72, k72, n72⟩, -, X72, ⟨Lc72, hQ72, l72, y72, z72⟩, st72⟩ := Jvm.LawKit.callS X71 hx (y := (⟨"java/lang/Math", "min", "(JJ)J"⟩ : MethodName)) hown (mvT hZ (hw _ (List.mem_of_getElem? (i := 59) rfl))) (mvT hZ (hw _ (List.mem_of_getElem? (i := 57) rfl))) (mvT hZ (hw _ (List.mem_of_getElem? (i := 42) rfl))) (mvT hZ (hw _ (List.mem_of_getElem? (i := 58) rfl))) (by decide) (backOf (W := 2) (rmMin l Z a0 hw [] (((vg2.toInt64) + (vwc.toInt64)) - (vwb.toInt64)) ((((2 : Int64) * (vg2.toInt64)) + ((vh + (2 : Int64)) * (vwc.toInt64))) - (vh * (vwb.toInt64))) h70 n0 Z70 ) hZ (hw _ (List.mem_of_getElem? (i := 58) rfl)) (hw _ (List.mem_of_getElem? (i := 42) rfl)) (by decide) (by decide)) (g := (mkF m 171 #[.val (.int ia), .val (.int ib), .val (.int ic), .val (.int id), .val (.int ie), .val (.long jh), .second, .val (.int vg), .val (.int vg2), .val (.int vwb), .val (.int vwa), .val (.int vwc), .val (.long vh), .second, .val (.ref b65), .val (.long (((vg2.toInt64) + (vwc.toInt64)) - (vwb.toInt64))), .second, .val (.long ((((2 : Int64) * (vg2.toInt64)) + ((vh + (2 : Int64)) * (vwc.toInt64))) - (vh * (vwb.toInt64)))), .second, .val (.long (4 : Int64)), .second, .val (.long (1099511627776 : Int64)), .second, .val (.long (281474976710656 : Int64)), .second, .unset, .unset, .unset] [(.long ((((2 : Int64) * (vg2.toInt64)) + ((vh + (2 : Int64)) * (vwc.toInt64))) - (vh * (vwb.toInt64)))), (.long (((vg2.toInt64) + (vwc.toInt64)) - (vwb.toInt64))), (.long (own_min ((1 : Int64) * ((vg2.toInt64 + vwc.toInt64) - vwb.toInt64)) (((4 : Int64) * (0 : Int64)) + ((((2 : Int64) * vg2.toInt64) + ((vh + (2 : Int64)) * vwc.toInt64)) - (vh * vwb.toInt64)))))])) rfl (by rw [hml]; rfl) (argsL := [(.long (((vg2.toInt64) + (vwc.toInt64)) - (vwb.toInt64))), (.long ((((2 : Int64) * (vg2.toInt64)) + ((vh + (2 : Int64)) * (vwc.toInt64))) - (vh * (vwb.toInt64))))]) (rest := [(.long (own_min ((1 : Int64) * ((vg2.toInt64 + vwc.toInt64) - vwb.toInt64)) (((4 : Int64) * (0 : Int64)) + ((((2 : Int64) * vg2.toInt64) + ((vh + (2 : Int64)) * vwc.toInt64)) - (vh * vwb.toInt64)))))]) (lenOf pd__JJ_J rfl) rfl (by show 2 * 0 + _ ≤ _; exact Nat.le_of_eq rfl) (hb hby at_171) (fun _ _ => ⟨rfl, e71, (by decide : 1 + 0 ≤ _), (by decide : 3 + 0 ≤ _)⟩)
  dsimp only [Pt.U, Pt.locs, Pt.cells, Pt.slots] at X72 l72 y72 z72 st72 hQ72
  subst l72 y72 z72
  obtain ⟨h72, e72⟩ : ∃ h, T72.heap = h := ⟨_, rfl⟩
  rw [e72] at hQ72
  obtain ⟨rfl, Nq72, hs72⟩ := hQ72
  have N72 := Fr.app N71 Nq72
  rw [hs72] at e72
  refine Go.step st72 ?_
  show Go _ _ _ _ _ _ _ T72 (mkF m 174 #[.val (.int ia), .val (.int ib), .val (.int ic), .val (.int id), .val (.int ie), .val (.long jh), .second, .val (.int vg), .val (.int vg2), .val (.int vwb), .val (.int vwa), .val (.int vwc), .val (.long vh), .second, .val (.ref b65), .val (.long (((vg2.toInt64) + (vwc.toInt64)) - (vwb.toInt64))), .second, .val (.long ((((2 : Int64) * (vg2.toInt64)) + ((vh + (2 : Int64)) * (vwc.toInt64))) - (vh * (vwb.toInt64)))), .second, .val (.long (4 : Int64)), .second, .val (.long (1099511627776 : Int64)), .second, .val (.long (281474976710656 : Int64)), .second, .unset, .unset, .unset] [(.long (own_min (((vg2.toInt64) + (vwc.toInt64)) - (vwb.toInt64)) ((((2 : Int64) * (vg2.toInt64)) + ((vh + (2 : Int64)) * (vwc.toInt64))) - (vh * (vwb.toInt64))))), (.long (own_min ((1 : Int64) * ((vg2.toInt64 + vwc.toInt64) - vwb.toInt64)) (((4 : Int64) * (0 : Int64)) + ((((2 : Int64) * vg2.toInt64) + ((vh + (2 : Int64)) * vwc.toInt64)) - (vh * vwb.toInt64)))))])
  refine Go.step (fun _ k => XS.lcmp X72.here hx rfl (hb hby at_174) rfl k) ?_
  show Go _ _ _ _ _ _ _ T72 (mkF m 175 #[.val (.int ia), .val (.int ib), .val (.int ic), .val (.int id), .val (.int ie), .val (.long jh), .second, .val (.int vg), .val (.int vg2), .val (.int vwb), .val (.int vwa), .val (.int vwc), .val (.long vh), .second, .val (.ref b65), .val (.long (((vg2.toInt64) + (vwc.toInt64)) - (vwb.toInt64))), .second, .val (.long ((((2 : Int64) * (vg2.toInt64)) + ((vh + (2 : Int64)) * (vwc.toInt64))) - (vh * (vwb.toInt64)))), .second, .val (.long (4 : Int64)), .second, .val (.long (1099511627776 : Int64)), .second, .val (.long (281474976710656 : Int64)), .second, .unset, .unset, .unset] [(.int (lcmpW (own_min ((1 : Int64) * ((vg2.toInt64 + vwc.toInt64) - vwb.toInt64)) (((4 : Int64) * (0 : Int64)) + ((((2 : Int64) * vg2.toInt64) + ((vh + (2 : Int64)) * vwc.toInt64)) - (vh * vwb.toInt64)))) (own_min (((vg2.toInt64) + (vwc.toInt64)) - (vwb.toInt64)) ((((2 : Int64) * (vg2.toInt64)) + ((vh + (2 : Int64)) * (vwc.toInt64))) - (vh * (vwb.toInt64))))))])
  have hc175_73 : (own_min ((1 : Int64) * ((vg2.toInt64 + vwc.toInt64) - vwb.toInt64)) (((4 : Int64) * (0 : Int64)) + ((((2 : Int64) * vg2.toInt64) + ((vh + (2 : Int64)) * vwc.toInt64)) - (vh * vwb.toInt64)))) = (own_min (((vg2.toInt64) + (vwc.toInt64)) - (vwb.toInt64)) ((((2 : Int64) * (vg2.toInt64)) + ((vh + (2 : Int64)) * (vwc.toInt64))) - (vh * (vwb.toInt64)))) := (by rw [Int64.one_mul]; congr 1; simp)
  refine Go.step (fun _ k => XS.ifNo X72.here hx rfl (hb hby at_175) rfl ((if0 _ _).trans (teq ((lw_eq _ _).mpr hc175_73)).2) k) ?_
  show Go _ _ _ _ _ _ _ T72 (mkF m 178 #[.val (.int ia), .val (.int ib), .val (.int ic), .val (.int id), .val (.int ie), .val (.long jh), .second, .val (.int vg), .val (.int vg2), .val (.int vwb), .val (.int vwa), .val (.int vwc), .val (.long vh), .second, .val (.ref b65), .val (.long (((vg2.toInt64) + (vwc.toInt64)) - (vwb.toInt64))), .second, .val (.long ((((2 : Int64) * (vg2.toInt64)) + ((vh + (2 : Int64)) * (vwc.toInt64))) - (vh * (vwb.toInt64)))), .second, .val (.long (4 : Int64)), .second, .val (.long (1099511627776 : Int64)), .second, .val (.long (281474976710656 : Int64)), .second, .unset, .unset, .unset] [])
  refine Go.step (fun _ k => XS.iconst X72.here hx rfl (hb hby at_178) k) ?_
  show Go _ _ _ _ _ _ _ T72 (mkF m 179 #[.val (.int ia), .val (.int ib), .val (.int ic), .val (.int id), .val (.int ie), .val (.long jh), .second, .val (.int vg), .val (.int vg2), .val (.int vwb), .val (.int vwa), .val (.int vwc), .val (.long vh), .second, .val (.ref b65), .val (.long (((vg2.toInt64) + (vwc.toInt64)) - (vwb.toInt64))), .second, .val (.long ((((2 : Int64) * (vg2.toInt64)) + ((vh + (2 : Int64)) * (vwc.toInt64))) - (vh * (vwb.toInt64)))), .second, .val (.long (4 : Int64)), .second, .val (.long (1099511627776 : Int64)), .second, .val (.long (281474976710656 : Int64)), .second, .unset, .unset, .unset] [(.int (1 : Int32))])
  refine Go.step (fun _ k => XS.goto X72.here hx rfl (pc0 := 179) (pc' := 183) rfl (hb hby at_179) (by decide) (by decide) k) ?_
  show Go _ _ _ _ _ _ _ T72 (mkF m 183 #[.val (.int ia), .val (.int ib), .val (.int ic), .val (.int id), .val (.int ie), .val (.long jh), .second, .val (.int vg), .val (.int vg2), .val (.int vwb), .val (.int vwa), .val (.int vwc), .val (.long vh), .second, .val (.ref b65), .val (.long (((vg2.toInt64) + (vwc.toInt64)) - (vwb.toInt64))), .second, .val (.long ((((2 : Int64) * (vg2.toInt64)) + ((vh + (2 : Int64)) * (vwc.toInt64))) - (vh * (vwb.toInt64)))), .second, .val (.long (4 : Int64)), .second, .val (.long (1099511627776 : Int64)), .second, .val (.long (281474976710656 : Int64)), .second, .unset, .unset, .unset] [(.int (1 : Int32))])
  refine Go.step (fun _ k => XS.istore X72.here hx rfl (hb hby at_183) rfl (l' := #[.val (.int ia), .val (.int ib), .val (.int ic), .val (.int id), .val (.int ie), .val (.long jh), .second, .val (.int vg), .val (.int vg2), .val (.int vwb), .val (.int vwa), .val (.int vwc), .val (.long vh), .second, .val (.ref b65), .val (.long (((vg2.toInt64) + (vwc.toInt64)) - (vwb.toInt64))), .second, .val (.long ((((2 : Int64) * (vg2.toInt64)) + ((vh + (2 : Int64)) * (vwc.toInt64))) - (vh * (vwb.toInt64)))), .second, .val (.long (4 : Int64)), .second, .val (.long (1099511627776 : Int64)), .second, .val (.long (281474976710656 : Int64)), .second, .val (.int (1 : Int32)), .unset, .unset]) rfl k) ?_
  show Go _ _ _ _ _ _ _ T72 (mkF m 185 #[.val (.int ia), .val (.int ib), .val (.int ic), .val (.int id), .val (.int ie), .val (.long jh), .second, .val (.int vg), .val (.int vg2), .val (.int vwb), .val (.int vwa), .val (.int vwc), .val (.long vh), .second, .val (.ref b65), .val (.long (((vg2.toInt64) + (vwc.toInt64)) - (vwb.toInt64))), .second, .val (.long ((((2 : Int64) * (vg2.toInt64)) + ((vh + (2 : Int64)) * (vwc.toInt64))) - (vh * (vwb.toInt64)))), .second, .val (.long (4 : Int64)), .second, .val (.long (1099511627776 : Int64)), .second, .val (.long (281474976710656 : Int64)), .second, .val (.int (1 : Int32)), .unset, .unset] [])
  refine Go.step (fun _ k => XS.aload X72.here hx rfl (hb hby at_185) rfl rfl k) ?_
  show Go _ _ _ _ _ _ _ T72 (mkF m 187 #[.val (.int ia), .val (.int ib), .val (.int ic), .val (.int id), .val (.int ie), .val (.long jh), .second, .val (.int vg), .val (.int vg2), .val (.int vwb), .val (.int vwa), .val (.int vwc), .val (.long vh), .second, .val (.ref b65), .val (.long (((vg2.toInt64) + (vwc.toInt64)) - (vwb.toInt64))), .second, .val (.long ((((2 : Int64) * (vg2.toInt64)) + ((vh + (2 : Int64)) * (vwc.toInt64))) - (vh * (vwb.toInt64)))), .second, .val (.long (4 : Int64)), .second, .val (.long (1099511627776 : Int64)), .second, .val (.long (281474976710656 : Int64)), .second, .val (.int (1 : Int32)), .unset, .unset] [(.ref b65)])
  refine Go.step (fun _ k => XS.lload X72.here hx rfl (hb hby at_187) rfl k) ?_
  show Go _ _ _ _ _ _ _ T72 (mkF m 189 #[.val (.int ia), .val (.int ib), .val (.int ic), .val (.int id), .val (.int ie), .val (.long jh), .second, .val (.int vg), .val (.int vg2), .val (.int vwb), .val (.int vwa), .val (.int vwc), .val (.long vh), .second, .val (.ref b65), .val (.long (((vg2.toInt64) + (vwc.toInt64)) - (vwb.toInt64))), .second, .val (.long ((((2 : Int64) * (vg2.toInt64)) + ((vh + (2 : Int64)) * (vwc.toInt64))) - (vh * (vwb.toInt64)))), .second, .val (.long (4 : Int64)), .second, .val (.long (1099511627776 : Int64)), .second, .val (.long (281474976710656 : Int64)), .second, .val (.int (1 : Int32)), .unset, .unset] [(.long (1099511627776 : Int64)), (.ref b65)])
  obtain ⟨cq74, kq74, q74a, q74b, q74c⟩ := isOf hZ e72 E1_70
  obtain ⟨_, _, ⟨T74, L74, k74, n74⟩, -, X74, ⟨Lc74, hQ74, l74, y74, z74⟩, st74⟩ := X72.virtualBack hx (y := (⟨"com/example/termvault/termvault/FieldLengths$Tally", "bound", "(J)J"⟩ : MethodName)) (z := (⟨"com/example/termvault/termvault/FieldLengths$Tally", "bound", "(J)J"⟩ : MethodName)) hown (mvT hZ (hw _ (List.mem_of_getElem? (i := 25) rfl))) (mvT hZ (hw _ (List.mem_of_getElem? (i := 26) rfl))) (notFace_of_selects (args := #[]) (mvT hZ (hw _ (List.mem_of_getElem? (i := 28) rfl)))) (mvT hZ (hw _ (List.mem_of_getElem? (i := 28) rfl))) (mvT hZ (hw _ (List.mem_of_getElem? (i := 27) rfl))) (by decide) (backOf (W := 0) (rmBo1099511627776 l Z a0 hw [] b65 ((vg2.toInt64 + vwc.toInt64) - vwb.toInt64) ((((2 : Int64) * vg2.toInt64) + ((vh + (2 : Int64)) * vwc.toInt64)) - (vh * vwb.toInt64)) (4 : Int64) h70 n0 Z70 E1_70 Fw1_70 Fb1_70 Fh1_70) hZ (hw _ (List.mem_of_getElem? (i := 29) rfl)) (hw _ (List.mem_of_getElem? (i := 3) rfl)) (by decide) (by decide)) q74a q74c (g := (mkF m 189 #[.val (.int ia), .val (.int ib), .val (.int ic), .val (.int id), .val (.int ie), .val (.long jh), .second, .val (.int vg), .val (.int vg2), .val (.int vwb), .val (.int vwa), .val (.int vwc), .val (.long vh), .second, .val (.ref b65), .val (.long (((vg2.toInt64) + (vwc.toInt64)) - (vwb.toInt64))), .second, .val (.long ((((2 : Int64) * (vg2.toInt64)) + ((vh + (2 : Int64)) * (vwc.toInt64))) - (vh * (vwb.toInt64)))), .second, .val (.long (4 : Int64)), .second, .val (.long (1099511627776 : Int64)), .second, .val (.long (281474976710656 : Int64)), .second, .val (.int (1 : Int32)), .unset, .unset] [(.long (1099511627776 : Int64)), (.ref b65)])) rfl (by rw [hml]; rfl) (Steps.refl _) (argsL := [(.long (1099511627776 : Int64))]) (rest := []) (lenOf pd__J_J rfl) rfl (by show 2 * 0 + _ ≤ _; exact Nat.le_of_eq rfl) (hb hby at_189) (fun _ _ => ⟨rfl, e72, (by decide : 1 + 0 ≤ _), (by decide : 3 + 0 ≤ _)⟩)
  dsimp only [Pt.U, Pt.locs, Pt.cells, Pt.slots] at X74 l74 y74 z74 st74 hQ74
  subst l74 y74 z74
  obtain ⟨h74, e74⟩ : ∃ h, T74.heap = h := ⟨_, rfl⟩
  rw [e74] at hQ74
  obtain ⟨rfl, Nq74, hs74⟩ := hQ74
  have N74 := Fr.app N72 Nq74
  rw [hs74] at e74
  refine Go.trans st74 ?_
  show Go _ _ _ _ _ _ _ T74 (mkF m 192 #[.val (.int ia), .val (.int ib), .val (.int ic), .val (.int id), .val (.int ie), .val (.long jh), .second, .val (.int vg), .val (.int vg2), .val (.int vwb), .val (.int vwa), .val (.int vwc), .val (.long vh), .second, .val (.ref b65), .val (.long (((vg2.toInt64) + (vwc.toInt64)) - (vwb.toInt64))), .second, .val (.long ((((2 : Int64) * (vg2.toInt64)) + ((vh + (2 : Int64)) * (vwc.toInt64))) - (vh * (vwb.toInt64)))), .second, .val (.long (4 : Int64)), .second, .val (.long (1099511627776 : Int64)), .second, .val (.long (281474976710656 : Int64)), .second, .val (.int (1 : Int32)), .unset, .unset] [(.long (own_min ((1099511627776 : Int64) * ((vg2.toInt64 + vwc.toInt64) - vwb.toInt64)) (((4 : Int64) * (5 : Int64)) + ((((2 : Int64) * vg2.toInt64) + ((vh + (2 : Int64)) * vwc.toInt64)) - (vh * vwb.toInt64)))))])
  refine Go.step (fun _ k => XS.lload X74.here hx rfl (hb hby at_192) rfl k) ?_
  show Go _ _ _ _ _ _ _ T74 (mkF m 194 #[.val (.int ia), .val (.int ib), .val (.int ic), .val (.int id), .val (.int ie), .val (.long jh), .second, .val (.int vg), .val (.int vg2), .val (.int vwb), .val (.int vwa), .val (.int vwc), .val (.long vh), .second, .val (.ref b65), .val (.long (((vg2.toInt64) + (vwc.toInt64)) - (vwb.toInt64))), .second, .val (.long ((((2 : Int64) * (vg2.toInt64)) + ((vh + (2 : Int64)) * (vwc.toInt64))) - (vh * (vwb.toInt64)))), .second, .val (.long (4 : Int64)), .second, .val (.long (1099511627776 : Int64)), .second, .val (.long (281474976710656 : Int64)), .second, .val (.int (1 : Int32)), .unset, .unset] [(.long (1099511627776 : Int64)), (.long (own_min ((1099511627776 : Int64) * ((vg2.toInt64 + vwc.toInt64) - vwb.toInt64)) (((4 : Int64) * (5 : Int64)) + ((((2 : Int64) * vg2.toInt64) + ((vh + (2 : Int64)) * vwc.toInt64)) - (vh * vwb.toInt64)))))])
  refine Go.step (fun _ k => XS.lload X74.here hx rfl (hb hby at_194) rfl k) ?_
  show Go _ _ _ _ _ _ _ T74 (mkF m 196 #[.val (.int ia), .val (.int ib), .val (.int ic), .val (.int id), .val (.int ie), .val (.long jh), .second, .val (.int vg), .val (.int vg2), .val (.int vwb), .val (.int vwa), .val (.int vwc), .val (.long vh), .second, .val (.ref b65), .val (.long (((vg2.toInt64) + (vwc.toInt64)) - (vwb.toInt64))), .second, .val (.long ((((2 : Int64) * (vg2.toInt64)) + ((vh + (2 : Int64)) * (vwc.toInt64))) - (vh * (vwb.toInt64)))), .second, .val (.long (4 : Int64)), .second, .val (.long (1099511627776 : Int64)), .second, .val (.long (281474976710656 : Int64)), .second, .val (.int (1 : Int32)), .unset, .unset] [(.long (((vg2.toInt64) + (vwc.toInt64)) - (vwb.toInt64))), (.long (1099511627776 : Int64)), (.long (own_min ((1099511627776 : Int64) * ((vg2.toInt64 + vwc.toInt64) - vwb.toInt64)) (((4 : Int64) * (5 : Int64)) + ((((2 : Int64) * vg2.toInt64) + ((vh + (2 : Int64)) * vwc.toInt64)) - (vh * vwb.toInt64)))))])
  refine Go.step (fun _ k => XS.lmul X74.here hx rfl (hb hby at_196) rfl k) ?_
  show Go _ _ _ _ _ _ _ T74 (mkF m 197 #[.val (.int ia), .val (.int ib), .val (.int ic), .val (.int id), .val (.int ie), .val (.long jh), .second, .val (.int vg), .val (.int vg2), .val (.int vwb), .val (.int vwa), .val (.int vwc), .val (.long vh), .second, .val (.ref b65), .val (.long (((vg2.toInt64) + (vwc.toInt64)) - (vwb.toInt64))), .second, .val (.long ((((2 : Int64) * (vg2.toInt64)) + ((vh + (2 : Int64)) * (vwc.toInt64))) - (vh * (vwb.toInt64)))), .second, .val (.long (4 : Int64)), .second, .val (.long (1099511627776 : Int64)), .second, .val (.long (281474976710656 : Int64)), .second, .val (.int (1 : Int32)), .unset, .unset] [(.long ((1099511627776 : Int64) * (((vg2.toInt64) + (vwc.toInt64)) - (vwb.toInt64)))), (.long (own_min ((1099511627776 : Int64) * ((vg2.toInt64 + vwc.toInt64) - vwb.toInt64)) (((4 : Int64) * (5 : Int64)) + ((((2 : Int64) * vg2.toInt64) + ((vh + (2 : Int64)) * vwc.toInt64)) - (vh * vwb.toInt64)))))])
  refine Go.step (X74.ldc2Long hx hown (mvT hZ (hw _ (List.mem_of_getElem? (i := 61) rfl))) (g := (mkF m 197 #[.val (.int ia), .val (.int ib), .val (.int ic), .val (.int id), .val (.int ie), .val (.long jh), .second, .val (.int vg), .val (.int vg2), .val (.int vwb), .val (.int vwa), .val (.int vwc), .val (.long vh), .second, .val (.ref b65), .val (.long (((vg2.toInt64) + (vwc.toInt64)) - (vwb.toInt64))), .second, .val (.long ((((2 : Int64) * (vg2.toInt64)) + ((vh + (2 : Int64)) * (vwc.toInt64))) - (vh * (vwb.toInt64)))), .second, .val (.long (4 : Int64)), .second, .val (.long (1099511627776 : Int64)), .second, .val (.long (281474976710656 : Int64)), .second, .val (.int (1 : Int32)), .unset, .unset] [(.long ((1099511627776 : Int64) * (((vg2.toInt64) + (vwc.toInt64)) - (vwb.toInt64)))), (.long (own_min ((1099511627776 : Int64) * ((vg2.toInt64 + vwc.toInt64) - vwb.toInt64)) (((4 : Int64) * (5 : Int64)) + ((((2 : Int64) * vg2.toInt64) + ((vh + (2 : Int64)) * vwc.toInt64)) - (vh * vwb.toInt64)))))])) rfl (hb hby at_197)) ?_
  show Go _ _ _ _ _ _ _ T74 (mkF m 200 #[.val (.int ia), .val (.int ib), .val (.int ic), .val (.int id), .val (.int ie), .val (.long jh), .second, .val (.int vg), .val (.int vg2), .val (.int vwb), .val (.int vwa), .val (.int vwc), .val (.long vh), .second, .val (.ref b65), .val (.long (((vg2.toInt64) + (vwc.toInt64)) - (vwb.toInt64))), .second, .val (.long ((((2 : Int64) * (vg2.toInt64)) + ((vh + (2 : Int64)) * (vwc.toInt64))) - (vh * (vwb.toInt64)))), .second, .val (.long (4 : Int64)), .second, .val (.long (1099511627776 : Int64)), .second, .val (.long (281474976710656 : Int64)), .second, .val (.int (1 : Int32)), .unset, .unset] [(.long (5 : Int64)), (.long ((1099511627776 : Int64) * (((vg2.toInt64) + (vwc.toInt64)) - (vwb.toInt64)))), (.long (own_min ((1099511627776 : Int64) * ((vg2.toInt64 + vwc.toInt64) - vwb.toInt64)) (((4 : Int64) * (5 : Int64)) + ((((2 : Int64) * vg2.toInt64) + ((vh + (2 : Int64)) * vwc.toInt64)) - (vh * vwb.toInt64)))))])
  refine Go.step (fun _ k => XS.lload X74.here hx rfl (hb hby at_200) rfl k) ?_
  show Go _ _ _ _ _ _ _ T74 (mkF m 202 #[.val (.int ia), .val (.int ib), .val (.int ic), .val (.int id), .val (.int ie), .val (.long jh), .second, .val (.int vg), .val (.int vg2), .val (.int vwb), .val (.int vwa), .val (.int vwc), .val (.long vh), .second, .val (.ref b65), .val (.long (((vg2.toInt64) + (vwc.toInt64)) - (vwb.toInt64))), .second, .val (.long ((((2 : Int64) * (vg2.toInt64)) + ((vh + (2 : Int64)) * (vwc.toInt64))) - (vh * (vwb.toInt64)))), .second, .val (.long (4 : Int64)), .second, .val (.long (1099511627776 : Int64)), .second, .val (.long (281474976710656 : Int64)), .second, .val (.int (1 : Int32)), .unset, .unset] [(.long (4 : Int64)), (.long (5 : Int64)), (.long ((1099511627776 : Int64) * (((vg2.toInt64) + (vwc.toInt64)) - (vwb.toInt64)))), (.long (own_min ((1099511627776 : Int64) * ((vg2.toInt64 + vwc.toInt64) - vwb.toInt64)) (((4 : Int64) * (5 : Int64)) + ((((2 : Int64) * vg2.toInt64) + ((vh + (2 : Int64)) * vwc.toInt64)) - (vh * vwb.toInt64)))))])
  refine Go.step (fun _ k => XS.lmul X74.here hx rfl (hb hby at_202) rfl k) ?_
  show Go _ _ _ _ _ _ _ T74 (mkF m 203 #[.val (.int ia), .val (.int ib), .val (.int ic), .val (.int id), .val (.int ie), .val (.long jh), .second, .val (.int vg), .val (.int vg2), .val (.int vwb), .val (.int vwa), .val (.int vwc), .val (.long vh), .second, .val (.ref b65), .val (.long (((vg2.toInt64) + (vwc.toInt64)) - (vwb.toInt64))), .second, .val (.long ((((2 : Int64) * (vg2.toInt64)) + ((vh + (2 : Int64)) * (vwc.toInt64))) - (vh * (vwb.toInt64)))), .second, .val (.long (4 : Int64)), .second, .val (.long (1099511627776 : Int64)), .second, .val (.long (281474976710656 : Int64)), .second, .val (.int (1 : Int32)), .unset, .unset] [(.long (20 : Int64)), (.long ((1099511627776 : Int64) * (((vg2.toInt64) + (vwc.toInt64)) - (vwb.toInt64)))), (.long (own_min ((1099511627776 : Int64) * ((vg2.toInt64 + vwc.toInt64) - vwb.toInt64)) (((4 : Int64) * (5 : Int64)) + ((((2 : Int64) * vg2.toInt64) + ((vh + (2 : Int64)) * vwc.toInt64)) - (vh * vwb.toInt64)))))])
  refine Go.step (fun _ k => XS.lload X74.here hx rfl (hb hby at_203) rfl k) ?_
  show Go _ _ _ _ _ _ _ T74 (mkF m 205 #[.val (.int ia), .val (.int ib), .val (.int ic), .val (.int id), .val (.int ie), .val (.long jh), .second, .val (.int vg), .val (.int vg2), .val (.int vwb), .val (.int vwa), .val (.int vwc), .val (.long vh), .second, .val (.ref b65), .val (.long (((vg2.toInt64) + (vwc.toInt64)) - (vwb.toInt64))), .second, .val (.long ((((2 : Int64) * (vg2.toInt64)) + ((vh + (2 : Int64)) * (vwc.toInt64))) - (vh * (vwb.toInt64)))), .second, .val (.long (4 : Int64)), .second, .val (.long (1099511627776 : Int64)), .second, .val (.long (281474976710656 : Int64)), .second, .val (.int (1 : Int32)), .unset, .unset] [(.long ((((2 : Int64) * (vg2.toInt64)) + ((vh + (2 : Int64)) * (vwc.toInt64))) - (vh * (vwb.toInt64)))), (.long (20 : Int64)), (.long ((1099511627776 : Int64) * (((vg2.toInt64) + (vwc.toInt64)) - (vwb.toInt64)))), (.long (own_min ((1099511627776 : Int64) * ((vg2.toInt64 + vwc.toInt64) - vwb.toInt64)) (((4 : Int64) * (5 : Int64)) + ((((2 : Int64) * vg2.toInt64) + ((vh + (2 : Int64)) * vwc.toInt64)) - (vh * vwb.toInt64)))))])
  refine Go.step (fun _ k => XS.ladd X74.here hx rfl (hb hby at_205) rfl k) ?_
  show Go _ _ _ _ _ _ _ T74 (mkF m 206 #[.val (.int ia), .val (.int ib), .val (.int ic), .val (.int id), .val (.int ie), .val (.long jh), .second, .val (.int vg), .val (.int vg2), .val (.int vwb), .val (.int vwa), .val (.int vwc), .val (.long vh), .second, .val (.ref b65), .val (.long (((vg2.toInt64) + (vwc.toInt64)) - (vwb.toInt64))), .second, .val (.long ((((2 : Int64) * (vg2.toInt64)) + ((vh + (2 : Int64)) * (vwc.toInt64))) - (vh * (vwb.toInt64)))), .second, .val (.long (4 : Int64)), .second, .val (.long (1099511627776 : Int64)), .second, .val (.long (281474976710656 : Int64)), .second, .val (.int (1 : Int32)), .unset, .unset] [(.long ((20 : Int64) + ((((2 : Int64) * (vg2.toInt64)) + ((vh + (2 : Int64)) * (vwc.toInt64))) - (vh * (vwb.toInt64))))), (.long ((1099511627776 : Int64) * (((vg2.toInt64) + (vwc.toInt64)) - (vwb.toInt64)))), (.long (own_min ((1099511627776 : Int64) * ((vg2.toInt64 + vwc.toInt64) - vwb.toInt64)) (((4 : Int64) * (5 : Int64)) + ((((2 : Int64) * vg2.toInt64) + ((vh + (2 : Int64)) * vwc.toInt64)) - (vh * vwb.toInt64)))))])
  obtain ⟨_, _, ⟨T75, L75, k75, n75⟩, -, X75, ⟨Lc75, hQ75, l75, y75, z75⟩, st75⟩ := Jvm.LawKit.callS X74 hx (y := (⟨"java/lang/Math", "min", "(JJ)J"⟩ : MethodName)) hown (mvT hZ (hw _ (List.mem_of_getElem? (i := 59) rfl))) (mvT hZ (hw _ (List.mem_of_getElem? (i := 57) rfl))) (mvT hZ (hw _ (List.mem_of_getElem? (i := 42) rfl))) (mvT hZ (hw _ (List.mem_of_getElem? (i := 58) rfl))) (by decide) (backOf (W := 2) (rmMin l Z a0 hw [] ((1099511627776 : Int64) * (((vg2.toInt64) + (vwc.toInt64)) - (vwb.toInt64))) ((20 : Int64) + ((((2 : Int64) * (vg2.toInt64)) + ((vh + (2 : Int64)) * (vwc.toInt64))) - (vh * (vwb.toInt64)))) h70 n0 Z70 ) hZ (hw _ (List.mem_of_getElem? (i := 58) rfl)) (hw _ (List.mem_of_getElem? (i := 42) rfl)) (by decide) (by decide)) (g := (mkF m 206 #[.val (.int ia), .val (.int ib), .val (.int ic), .val (.int id), .val (.int ie), .val (.long jh), .second, .val (.int vg), .val (.int vg2), .val (.int vwb), .val (.int vwa), .val (.int vwc), .val (.long vh), .second, .val (.ref b65), .val (.long (((vg2.toInt64) + (vwc.toInt64)) - (vwb.toInt64))), .second, .val (.long ((((2 : Int64) * (vg2.toInt64)) + ((vh + (2 : Int64)) * (vwc.toInt64))) - (vh * (vwb.toInt64)))), .second, .val (.long (4 : Int64)), .second, .val (.long (1099511627776 : Int64)), .second, .val (.long (281474976710656 : Int64)), .second, .val (.int (1 : Int32)), .unset, .unset] [(.long ((20 : Int64) + ((((2 : Int64) * (vg2.toInt64)) + ((vh + (2 : Int64)) * (vwc.toInt64))) - (vh * (vwb.toInt64))))), (.long ((1099511627776 : Int64) * (((vg2.toInt64) + (vwc.toInt64)) - (vwb.toInt64)))), (.long (own_min ((1099511627776 : Int64) * ((vg2.toInt64 + vwc.toInt64) - vwb.toInt64)) (((4 : Int64) * (5 : Int64)) + ((((2 : Int64) * vg2.toInt64) + ((vh + (2 : Int64)) * vwc.toInt64)) - (vh * vwb.toInt64)))))])) rfl (by rw [hml]; rfl) (argsL := [(.long ((1099511627776 : Int64) * (((vg2.toInt64) + (vwc.toInt64)) - (vwb.toInt64)))), (.long ((20 : Int64) + ((((2 : Int64) * (vg2.toInt64)) + ((vh + (2 : Int64)) * (vwc.toInt64))) - (vh * (vwb.toInt64)))))]) (rest := [(.long (own_min ((1099511627776 : Int64) * ((vg2.toInt64 + vwc.toInt64) - vwb.toInt64)) (((4 : Int64) * (5 : Int64)) + ((((2 : Int64) * vg2.toInt64) + ((vh + (2 : Int64)) * vwc.toInt64)) - (vh * vwb.toInt64)))))]) (lenOf pd__JJ_J rfl) rfl (by show 2 * 0 + _ ≤ _; exact Nat.le_of_eq rfl) (hb hby at_206) (fun _ _ => ⟨rfl, e74, (by decide : 1 + 0 ≤ _), (by decide : 3 + 0 ≤ _)⟩)
  dsimp only [Pt.U, Pt.locs, Pt.cells, Pt.slots] at X75 l75 y75 z75 st75 hQ75
  subst l75 y75 z75
  obtain ⟨h75, e75⟩ : ∃ h, T75.heap = h := ⟨_, rfl⟩
  rw [e75] at hQ75
  obtain ⟨rfl, Nq75, hs75⟩ := hQ75
  have N75 := Fr.app N74 Nq75
  rw [hs75] at e75
  refine Go.step st75 ?_
  show Go _ _ _ _ _ _ _ T75 (mkF m 209 #[.val (.int ia), .val (.int ib), .val (.int ic), .val (.int id), .val (.int ie), .val (.long jh), .second, .val (.int vg), .val (.int vg2), .val (.int vwb), .val (.int vwa), .val (.int vwc), .val (.long vh), .second, .val (.ref b65), .val (.long (((vg2.toInt64) + (vwc.toInt64)) - (vwb.toInt64))), .second, .val (.long ((((2 : Int64) * (vg2.toInt64)) + ((vh + (2 : Int64)) * (vwc.toInt64))) - (vh * (vwb.toInt64)))), .second, .val (.long (4 : Int64)), .second, .val (.long (1099511627776 : Int64)), .second, .val (.long (281474976710656 : Int64)), .second, .val (.int (1 : Int32)), .unset, .unset] [(.long (own_min ((1099511627776 : Int64) * (((vg2.toInt64) + (vwc.toInt64)) - (vwb.toInt64))) ((20 : Int64) + ((((2 : Int64) * (vg2.toInt64)) + ((vh + (2 : Int64)) * (vwc.toInt64))) - (vh * (vwb.toInt64)))))), (.long (own_min ((1099511627776 : Int64) * ((vg2.toInt64 + vwc.toInt64) - vwb.toInt64)) (((4 : Int64) * (5 : Int64)) + ((((2 : Int64) * vg2.toInt64) + ((vh + (2 : Int64)) * vwc.toInt64)) - (vh * vwb.toInt64)))))])
  refine Go.step (fun _ k => XS.lcmp X75.here hx rfl (hb hby at_209) rfl k) ?_
  show Go _ _ _ _ _ _ _ T75 (mkF m 210 #[.val (.int ia), .val (.int ib), .val (.int ic), .val (.int id), .val (.int ie), .val (.long jh), .second, .val (.int vg), .val (.int vg2), .val (.int vwb), .val (.int vwa), .val (.int vwc), .val (.long vh), .second, .val (.ref b65), .val (.long (((vg2.toInt64) + (vwc.toInt64)) - (vwb.toInt64))), .second, .val (.long ((((2 : Int64) * (vg2.toInt64)) + ((vh + (2 : Int64)) * (vwc.toInt64))) - (vh * (vwb.toInt64)))), .second, .val (.long (4 : Int64)), .second, .val (.long (1099511627776 : Int64)), .second, .val (.long (281474976710656 : Int64)), .second, .val (.int (1 : Int32)), .unset, .unset] [(.int (lcmpW (own_min ((1099511627776 : Int64) * ((vg2.toInt64 + vwc.toInt64) - vwb.toInt64)) (((4 : Int64) * (5 : Int64)) + ((((2 : Int64) * vg2.toInt64) + ((vh + (2 : Int64)) * vwc.toInt64)) - (vh * vwb.toInt64)))) (own_min ((1099511627776 : Int64) * (((vg2.toInt64) + (vwc.toInt64)) - (vwb.toInt64))) ((20 : Int64) + ((((2 : Int64) * (vg2.toInt64)) + ((vh + (2 : Int64)) * (vwc.toInt64))) - (vh * (vwb.toInt64)))))))])
  have hc210_76 : (own_min ((1099511627776 : Int64) * ((vg2.toInt64 + vwc.toInt64) - vwb.toInt64)) (((4 : Int64) * (5 : Int64)) + ((((2 : Int64) * vg2.toInt64) + ((vh + (2 : Int64)) * vwc.toInt64)) - (vh * vwb.toInt64)))) = (own_min ((1099511627776 : Int64) * (((vg2.toInt64) + (vwc.toInt64)) - (vwb.toInt64))) ((20 : Int64) + ((((2 : Int64) * (vg2.toInt64)) + ((vh + (2 : Int64)) * (vwc.toInt64))) - (vh * (vwb.toInt64))))) := (by congr 1)
  refine Go.step (fun _ k => XS.ifNo X75.here hx rfl (hb hby at_210) rfl ((if0 _ _).trans (teq ((lw_eq _ _).mpr hc210_76)).2) k) ?_
  show Go _ _ _ _ _ _ _ T75 (mkF m 213 #[.val (.int ia), .val (.int ib), .val (.int ic), .val (.int id), .val (.int ie), .val (.long jh), .second, .val (.int vg), .val (.int vg2), .val (.int vwb), .val (.int vwa), .val (.int vwc), .val (.long vh), .second, .val (.ref b65), .val (.long (((vg2.toInt64) + (vwc.toInt64)) - (vwb.toInt64))), .second, .val (.long ((((2 : Int64) * (vg2.toInt64)) + ((vh + (2 : Int64)) * (vwc.toInt64))) - (vh * (vwb.toInt64)))), .second, .val (.long (4 : Int64)), .second, .val (.long (1099511627776 : Int64)), .second, .val (.long (281474976710656 : Int64)), .second, .val (.int (1 : Int32)), .unset, .unset] [])
  refine Go.step (fun _ k => XS.iconst X75.here hx rfl (hb hby at_213) k) ?_
  show Go _ _ _ _ _ _ _ T75 (mkF m 214 #[.val (.int ia), .val (.int ib), .val (.int ic), .val (.int id), .val (.int ie), .val (.long jh), .second, .val (.int vg), .val (.int vg2), .val (.int vwb), .val (.int vwa), .val (.int vwc), .val (.long vh), .second, .val (.ref b65), .val (.long (((vg2.toInt64) + (vwc.toInt64)) - (vwb.toInt64))), .second, .val (.long ((((2 : Int64) * (vg2.toInt64)) + ((vh + (2 : Int64)) * (vwc.toInt64))) - (vh * (vwb.toInt64)))), .second, .val (.long (4 : Int64)), .second, .val (.long (1099511627776 : Int64)), .second, .val (.long (281474976710656 : Int64)), .second, .val (.int (1 : Int32)), .unset, .unset] [(.int (1 : Int32))])
  refine Go.step (fun _ k => XS.goto X75.here hx rfl (pc0 := 214) (pc' := 218) rfl (hb hby at_214) (by decide) (by decide) k) ?_
  show Go _ _ _ _ _ _ _ T75 (mkF m 218 #[.val (.int ia), .val (.int ib), .val (.int ic), .val (.int id), .val (.int ie), .val (.long jh), .second, .val (.int vg), .val (.int vg2), .val (.int vwb), .val (.int vwa), .val (.int vwc), .val (.long vh), .second, .val (.ref b65), .val (.long (((vg2.toInt64) + (vwc.toInt64)) - (vwb.toInt64))), .second, .val (.long ((((2 : Int64) * (vg2.toInt64)) + ((vh + (2 : Int64)) * (vwc.toInt64))) - (vh * (vwb.toInt64)))), .second, .val (.long (4 : Int64)), .second, .val (.long (1099511627776 : Int64)), .second, .val (.long (281474976710656 : Int64)), .second, .val (.int (1 : Int32)), .unset, .unset] [(.int (1 : Int32))])
  refine Go.step (fun _ k => XS.istore X75.here hx rfl (hb hby at_218) rfl (l' := #[.val (.int ia), .val (.int ib), .val (.int ic), .val (.int id), .val (.int ie), .val (.long jh), .second, .val (.int vg), .val (.int vg2), .val (.int vwb), .val (.int vwa), .val (.int vwc), .val (.long vh), .second, .val (.ref b65), .val (.long (((vg2.toInt64) + (vwc.toInt64)) - (vwb.toInt64))), .second, .val (.long ((((2 : Int64) * (vg2.toInt64)) + ((vh + (2 : Int64)) * (vwc.toInt64))) - (vh * (vwb.toInt64)))), .second, .val (.long (4 : Int64)), .second, .val (.long (1099511627776 : Int64)), .second, .val (.long (281474976710656 : Int64)), .second, .val (.int (1 : Int32)), .val (.int (1 : Int32)), .unset]) rfl k) ?_
  show Go _ _ _ _ _ _ _ T75 (mkF m 220 #[.val (.int ia), .val (.int ib), .val (.int ic), .val (.int id), .val (.int ie), .val (.long jh), .second, .val (.int vg), .val (.int vg2), .val (.int vwb), .val (.int vwa), .val (.int vwc), .val (.long vh), .second, .val (.ref b65), .val (.long (((vg2.toInt64) + (vwc.toInt64)) - (vwb.toInt64))), .second, .val (.long ((((2 : Int64) * (vg2.toInt64)) + ((vh + (2 : Int64)) * (vwc.toInt64))) - (vh * (vwb.toInt64)))), .second, .val (.long (4 : Int64)), .second, .val (.long (1099511627776 : Int64)), .second, .val (.long (281474976710656 : Int64)), .second, .val (.int (1 : Int32)), .val (.int (1 : Int32)), .unset] [])
  refine Go.step (fun _ k => XS.aload X75.here hx rfl (hb hby at_220) rfl rfl k) ?_
  show Go _ _ _ _ _ _ _ T75 (mkF m 222 #[.val (.int ia), .val (.int ib), .val (.int ic), .val (.int id), .val (.int ie), .val (.long jh), .second, .val (.int vg), .val (.int vg2), .val (.int vwb), .val (.int vwa), .val (.int vwc), .val (.long vh), .second, .val (.ref b65), .val (.long (((vg2.toInt64) + (vwc.toInt64)) - (vwb.toInt64))), .second, .val (.long ((((2 : Int64) * (vg2.toInt64)) + ((vh + (2 : Int64)) * (vwc.toInt64))) - (vh * (vwb.toInt64)))), .second, .val (.long (4 : Int64)), .second, .val (.long (1099511627776 : Int64)), .second, .val (.long (281474976710656 : Int64)), .second, .val (.int (1 : Int32)), .val (.int (1 : Int32)), .unset] [(.ref b65)])
  refine Go.step (fun _ k => XS.lload X75.here hx rfl (hb hby at_222) rfl k) ?_
  show Go _ _ _ _ _ _ _ T75 (mkF m 224 #[.val (.int ia), .val (.int ib), .val (.int ic), .val (.int id), .val (.int ie), .val (.long jh), .second, .val (.int vg), .val (.int vg2), .val (.int vwb), .val (.int vwa), .val (.int vwc), .val (.long vh), .second, .val (.ref b65), .val (.long (((vg2.toInt64) + (vwc.toInt64)) - (vwb.toInt64))), .second, .val (.long ((((2 : Int64) * (vg2.toInt64)) + ((vh + (2 : Int64)) * (vwc.toInt64))) - (vh * (vwb.toInt64)))), .second, .val (.long (4 : Int64)), .second, .val (.long (1099511627776 : Int64)), .second, .val (.long (281474976710656 : Int64)), .second, .val (.int (1 : Int32)), .val (.int (1 : Int32)), .unset] [(.long (281474976710656 : Int64)), (.ref b65)])
  obtain ⟨cq77, kq77, q77a, q77b, q77c⟩ := isOf hZ e75 E1_70
  obtain ⟨_, _, ⟨T77, L77, k77, n77⟩, -, X77, ⟨Lc77, hQ77, l77, y77, z77⟩, st77⟩ := X75.virtualBack hx (y := (⟨"com/example/termvault/termvault/FieldLengths$Tally", "bound", "(J)J"⟩ : MethodName)) (z := (⟨"com/example/termvault/termvault/FieldLengths$Tally", "bound", "(J)J"⟩ : MethodName)) hown (mvT hZ (hw _ (List.mem_of_getElem? (i := 25) rfl))) (mvT hZ (hw _ (List.mem_of_getElem? (i := 26) rfl))) (notFace_of_selects (args := #[]) (mvT hZ (hw _ (List.mem_of_getElem? (i := 28) rfl)))) (mvT hZ (hw _ (List.mem_of_getElem? (i := 28) rfl))) (mvT hZ (hw _ (List.mem_of_getElem? (i := 27) rfl))) (by decide) (backOf (W := 0) (rmBo281474976710656 l Z a0 hw [] b65 ((vg2.toInt64 + vwc.toInt64) - vwb.toInt64) ((((2 : Int64) * vg2.toInt64) + ((vh + (2 : Int64)) * vwc.toInt64)) - (vh * vwb.toInt64)) (4 : Int64) h70 n0 Z70 E1_70 Fw1_70 Fb1_70 Fh1_70) hZ (hw _ (List.mem_of_getElem? (i := 29) rfl)) (hw _ (List.mem_of_getElem? (i := 3) rfl)) (by decide) (by decide)) q77a q77c (g := (mkF m 224 #[.val (.int ia), .val (.int ib), .val (.int ic), .val (.int id), .val (.int ie), .val (.long jh), .second, .val (.int vg), .val (.int vg2), .val (.int vwb), .val (.int vwa), .val (.int vwc), .val (.long vh), .second, .val (.ref b65), .val (.long (((vg2.toInt64) + (vwc.toInt64)) - (vwb.toInt64))), .second, .val (.long ((((2 : Int64) * (vg2.toInt64)) + ((vh + (2 : Int64)) * (vwc.toInt64))) - (vh * (vwb.toInt64)))), .second, .val (.long (4 : Int64)), .second, .val (.long (1099511627776 : Int64)), .second, .val (.long (281474976710656 : Int64)), .second, .val (.int (1 : Int32)), .val (.int (1 : Int32)), .unset] [(.long (281474976710656 : Int64)), (.ref b65)])) rfl (by rw [hml]; rfl) (Steps.refl _) (argsL := [(.long (281474976710656 : Int64))]) (rest := []) (lenOf pd__J_J rfl) rfl (by show 2 * 0 + _ ≤ _; exact Nat.le_of_eq rfl) (hb hby at_224) (fun _ _ => ⟨rfl, e75, (by decide : 1 + 0 ≤ _), (by decide : 3 + 0 ≤ _)⟩)
  dsimp only [Pt.U, Pt.locs, Pt.cells, Pt.slots] at X77 l77 y77 z77 st77 hQ77
  subst l77 y77 z77
  obtain ⟨h77, e77⟩ : ∃ h, T77.heap = h := ⟨_, rfl⟩
  rw [e77] at hQ77
  obtain ⟨rfl, Nq77, hs77⟩ := hQ77
  have N77 := Fr.app N75 Nq77
  rw [hs77] at e77
  refine Go.trans st77 ?_
  show Go _ _ _ _ _ _ _ T77 (mkF m 227 #[.val (.int ia), .val (.int ib), .val (.int ic), .val (.int id), .val (.int ie), .val (.long jh), .second, .val (.int vg), .val (.int vg2), .val (.int vwb), .val (.int vwa), .val (.int vwc), .val (.long vh), .second, .val (.ref b65), .val (.long (((vg2.toInt64) + (vwc.toInt64)) - (vwb.toInt64))), .second, .val (.long ((((2 : Int64) * (vg2.toInt64)) + ((vh + (2 : Int64)) * (vwc.toInt64))) - (vh * (vwb.toInt64)))), .second, .val (.long (4 : Int64)), .second, .val (.long (1099511627776 : Int64)), .second, .val (.long (281474976710656 : Int64)), .second, .val (.int (1 : Int32)), .val (.int (1 : Int32)), .unset] [(.long (own_min ((281474976710656 : Int64) * ((vg2.toInt64 + vwc.toInt64) - vwb.toInt64)) (((4 : Int64) * (6 : Int64)) + ((((2 : Int64) * vg2.toInt64) + ((vh + (2 : Int64)) * vwc.toInt64)) - (vh * vwb.toInt64)))))])
  refine Go.step (fun _ k => XS.lload X77.here hx rfl (hb hby at_227) rfl k) ?_
  show Go _ _ _ _ _ _ _ T77 (mkF m 229 #[.val (.int ia), .val (.int ib), .val (.int ic), .val (.int id), .val (.int ie), .val (.long jh), .second, .val (.int vg), .val (.int vg2), .val (.int vwb), .val (.int vwa), .val (.int vwc), .val (.long vh), .second, .val (.ref b65), .val (.long (((vg2.toInt64) + (vwc.toInt64)) - (vwb.toInt64))), .second, .val (.long ((((2 : Int64) * (vg2.toInt64)) + ((vh + (2 : Int64)) * (vwc.toInt64))) - (vh * (vwb.toInt64)))), .second, .val (.long (4 : Int64)), .second, .val (.long (1099511627776 : Int64)), .second, .val (.long (281474976710656 : Int64)), .second, .val (.int (1 : Int32)), .val (.int (1 : Int32)), .unset] [(.long (281474976710656 : Int64)), (.long (own_min ((281474976710656 : Int64) * ((vg2.toInt64 + vwc.toInt64) - vwb.toInt64)) (((4 : Int64) * (6 : Int64)) + ((((2 : Int64) * vg2.toInt64) + ((vh + (2 : Int64)) * vwc.toInt64)) - (vh * vwb.toInt64)))))])
  refine Go.step (fun _ k => XS.lload X77.here hx rfl (hb hby at_229) rfl k) ?_
  show Go _ _ _ _ _ _ _ T77 (mkF m 231 #[.val (.int ia), .val (.int ib), .val (.int ic), .val (.int id), .val (.int ie), .val (.long jh), .second, .val (.int vg), .val (.int vg2), .val (.int vwb), .val (.int vwa), .val (.int vwc), .val (.long vh), .second, .val (.ref b65), .val (.long (((vg2.toInt64) + (vwc.toInt64)) - (vwb.toInt64))), .second, .val (.long ((((2 : Int64) * (vg2.toInt64)) + ((vh + (2 : Int64)) * (vwc.toInt64))) - (vh * (vwb.toInt64)))), .second, .val (.long (4 : Int64)), .second, .val (.long (1099511627776 : Int64)), .second, .val (.long (281474976710656 : Int64)), .second, .val (.int (1 : Int32)), .val (.int (1 : Int32)), .unset] [(.long (((vg2.toInt64) + (vwc.toInt64)) - (vwb.toInt64))), (.long (281474976710656 : Int64)), (.long (own_min ((281474976710656 : Int64) * ((vg2.toInt64 + vwc.toInt64) - vwb.toInt64)) (((4 : Int64) * (6 : Int64)) + ((((2 : Int64) * vg2.toInt64) + ((vh + (2 : Int64)) * vwc.toInt64)) - (vh * vwb.toInt64)))))])
  refine Go.step (fun _ k => XS.lmul X77.here hx rfl (hb hby at_231) rfl k) ?_
  show Go _ _ _ _ _ _ _ T77 (mkF m 232 #[.val (.int ia), .val (.int ib), .val (.int ic), .val (.int id), .val (.int ie), .val (.long jh), .second, .val (.int vg), .val (.int vg2), .val (.int vwb), .val (.int vwa), .val (.int vwc), .val (.long vh), .second, .val (.ref b65), .val (.long (((vg2.toInt64) + (vwc.toInt64)) - (vwb.toInt64))), .second, .val (.long ((((2 : Int64) * (vg2.toInt64)) + ((vh + (2 : Int64)) * (vwc.toInt64))) - (vh * (vwb.toInt64)))), .second, .val (.long (4 : Int64)), .second, .val (.long (1099511627776 : Int64)), .second, .val (.long (281474976710656 : Int64)), .second, .val (.int (1 : Int32)), .val (.int (1 : Int32)), .unset] [(.long ((281474976710656 : Int64) * (((vg2.toInt64) + (vwc.toInt64)) - (vwb.toInt64)))), (.long (own_min ((281474976710656 : Int64) * ((vg2.toInt64 + vwc.toInt64) - vwb.toInt64)) (((4 : Int64) * (6 : Int64)) + ((((2 : Int64) * vg2.toInt64) + ((vh + (2 : Int64)) * vwc.toInt64)) - (vh * vwb.toInt64)))))])
  refine Go.step (X77.ldc2Long hx hown (mvT hZ (hw _ (List.mem_of_getElem? (i := 62) rfl))) (g := (mkF m 232 #[.val (.int ia), .val (.int ib), .val (.int ic), .val (.int id), .val (.int ie), .val (.long jh), .second, .val (.int vg), .val (.int vg2), .val (.int vwb), .val (.int vwa), .val (.int vwc), .val (.long vh), .second, .val (.ref b65), .val (.long (((vg2.toInt64) + (vwc.toInt64)) - (vwb.toInt64))), .second, .val (.long ((((2 : Int64) * (vg2.toInt64)) + ((vh + (2 : Int64)) * (vwc.toInt64))) - (vh * (vwb.toInt64)))), .second, .val (.long (4 : Int64)), .second, .val (.long (1099511627776 : Int64)), .second, .val (.long (281474976710656 : Int64)), .second, .val (.int (1 : Int32)), .val (.int (1 : Int32)), .unset] [(.long ((281474976710656 : Int64) * (((vg2.toInt64) + (vwc.toInt64)) - (vwb.toInt64)))), (.long (own_min ((281474976710656 : Int64) * ((vg2.toInt64 + vwc.toInt64) - vwb.toInt64)) (((4 : Int64) * (6 : Int64)) + ((((2 : Int64) * vg2.toInt64) + ((vh + (2 : Int64)) * vwc.toInt64)) - (vh * vwb.toInt64)))))])) rfl (hb hby at_232)) ?_
  show Go _ _ _ _ _ _ _ T77 (mkF m 235 #[.val (.int ia), .val (.int ib), .val (.int ic), .val (.int id), .val (.int ie), .val (.long jh), .second, .val (.int vg), .val (.int vg2), .val (.int vwb), .val (.int vwa), .val (.int vwc), .val (.long vh), .second, .val (.ref b65), .val (.long (((vg2.toInt64) + (vwc.toInt64)) - (vwb.toInt64))), .second, .val (.long ((((2 : Int64) * (vg2.toInt64)) + ((vh + (2 : Int64)) * (vwc.toInt64))) - (vh * (vwb.toInt64)))), .second, .val (.long (4 : Int64)), .second, .val (.long (1099511627776 : Int64)), .second, .val (.long (281474976710656 : Int64)), .second, .val (.int (1 : Int32)), .val (.int (1 : Int32)), .unset] [(.long (6 : Int64)), (.long ((281474976710656 : Int64) * (((vg2.toInt64) + (vwc.toInt64)) - (vwb.toInt64)))), (.long (own_min ((281474976710656 : Int64) * ((vg2.toInt64 + vwc.toInt64) - vwb.toInt64)) (((4 : Int64) * (6 : Int64)) + ((((2 : Int64) * vg2.toInt64) + ((vh + (2 : Int64)) * vwc.toInt64)) - (vh * vwb.toInt64)))))])
  refine Go.step (fun _ k => XS.lload X77.here hx rfl (hb hby at_235) rfl k) ?_
  show Go _ _ _ _ _ _ _ T77 (mkF m 237 #[.val (.int ia), .val (.int ib), .val (.int ic), .val (.int id), .val (.int ie), .val (.long jh), .second, .val (.int vg), .val (.int vg2), .val (.int vwb), .val (.int vwa), .val (.int vwc), .val (.long vh), .second, .val (.ref b65), .val (.long (((vg2.toInt64) + (vwc.toInt64)) - (vwb.toInt64))), .second, .val (.long ((((2 : Int64) * (vg2.toInt64)) + ((vh + (2 : Int64)) * (vwc.toInt64))) - (vh * (vwb.toInt64)))), .second, .val (.long (4 : Int64)), .second, .val (.long (1099511627776 : Int64)), .second, .val (.long (281474976710656 : Int64)), .second, .val (.int (1 : Int32)), .val (.int (1 : Int32)), .unset] [(.long (4 : Int64)), (.long (6 : Int64)), (.long ((281474976710656 : Int64) * (((vg2.toInt64) + (vwc.toInt64)) - (vwb.toInt64)))), (.long (own_min ((281474976710656 : Int64) * ((vg2.toInt64 + vwc.toInt64) - vwb.toInt64)) (((4 : Int64) * (6 : Int64)) + ((((2 : Int64) * vg2.toInt64) + ((vh + (2 : Int64)) * vwc.toInt64)) - (vh * vwb.toInt64)))))])
  refine Go.step (fun _ k => XS.lmul X77.here hx rfl (hb hby at_237) rfl k) ?_
  show Go _ _ _ _ _ _ _ T77 (mkF m 238 #[.val (.int ia), .val (.int ib), .val (.int ic), .val (.int id), .val (.int ie), .val (.long jh), .second, .val (.int vg), .val (.int vg2), .val (.int vwb), .val (.int vwa), .val (.int vwc), .val (.long vh), .second, .val (.ref b65), .val (.long (((vg2.toInt64) + (vwc.toInt64)) - (vwb.toInt64))), .second, .val (.long ((((2 : Int64) * (vg2.toInt64)) + ((vh + (2 : Int64)) * (vwc.toInt64))) - (vh * (vwb.toInt64)))), .second, .val (.long (4 : Int64)), .second, .val (.long (1099511627776 : Int64)), .second, .val (.long (281474976710656 : Int64)), .second, .val (.int (1 : Int32)), .val (.int (1 : Int32)), .unset] [(.long (24 : Int64)), (.long ((281474976710656 : Int64) * (((vg2.toInt64) + (vwc.toInt64)) - (vwb.toInt64)))), (.long (own_min ((281474976710656 : Int64) * ((vg2.toInt64 + vwc.toInt64) - vwb.toInt64)) (((4 : Int64) * (6 : Int64)) + ((((2 : Int64) * vg2.toInt64) + ((vh + (2 : Int64)) * vwc.toInt64)) - (vh * vwb.toInt64)))))])
  refine Go.step (fun _ k => XS.lload X77.here hx rfl (hb hby at_238) rfl k) ?_
  show Go _ _ _ _ _ _ _ T77 (mkF m 240 #[.val (.int ia), .val (.int ib), .val (.int ic), .val (.int id), .val (.int ie), .val (.long jh), .second, .val (.int vg), .val (.int vg2), .val (.int vwb), .val (.int vwa), .val (.int vwc), .val (.long vh), .second, .val (.ref b65), .val (.long (((vg2.toInt64) + (vwc.toInt64)) - (vwb.toInt64))), .second, .val (.long ((((2 : Int64) * (vg2.toInt64)) + ((vh + (2 : Int64)) * (vwc.toInt64))) - (vh * (vwb.toInt64)))), .second, .val (.long (4 : Int64)), .second, .val (.long (1099511627776 : Int64)), .second, .val (.long (281474976710656 : Int64)), .second, .val (.int (1 : Int32)), .val (.int (1 : Int32)), .unset] [(.long ((((2 : Int64) * (vg2.toInt64)) + ((vh + (2 : Int64)) * (vwc.toInt64))) - (vh * (vwb.toInt64)))), (.long (24 : Int64)), (.long ((281474976710656 : Int64) * (((vg2.toInt64) + (vwc.toInt64)) - (vwb.toInt64)))), (.long (own_min ((281474976710656 : Int64) * ((vg2.toInt64 + vwc.toInt64) - vwb.toInt64)) (((4 : Int64) * (6 : Int64)) + ((((2 : Int64) * vg2.toInt64) + ((vh + (2 : Int64)) * vwc.toInt64)) - (vh * vwb.toInt64)))))])
  refine Go.step (fun _ k => XS.ladd X77.here hx rfl (hb hby at_240) rfl k) ?_
  show Go _ _ _ _ _ _ _ T77 (mkF m 241 #[.val (.int ia), .val (.int ib), .val (.int ic), .val (.int id), .val (.int ie), .val (.long jh), .second, .val (.int vg), .val (.int vg2), .val (.int vwb), .val (.int vwa), .val (.int vwc), .val (.long vh), .second, .val (.ref b65), .val (.long (((vg2.toInt64) + (vwc.toInt64)) - (vwb.toInt64))), .second, .val (.long ((((2 : Int64) * (vg2.toInt64)) + ((vh + (2 : Int64)) * (vwc.toInt64))) - (vh * (vwb.toInt64)))), .second, .val (.long (4 : Int64)), .second, .val (.long (1099511627776 : Int64)), .second, .val (.long (281474976710656 : Int64)), .second, .val (.int (1 : Int32)), .val (.int (1 : Int32)), .unset] [(.long ((24 : Int64) + ((((2 : Int64) * (vg2.toInt64)) + ((vh + (2 : Int64)) * (vwc.toInt64))) - (vh * (vwb.toInt64))))), (.long ((281474976710656 : Int64) * (((vg2.toInt64) + (vwc.toInt64)) - (vwb.toInt64)))), (.long (own_min ((281474976710656 : Int64) * ((vg2.toInt64 + vwc.toInt64) - vwb.toInt64)) (((4 : Int64) * (6 : Int64)) + ((((2 : Int64) * vg2.toInt64) + ((vh + (2 : Int64)) * vwc.toInt64)) - (vh * vwb.toInt64)))))])
  obtain ⟨_, _, ⟨T78, L78, k78, n78⟩, -, X78, ⟨Lc78, hQ78, l78, y78, z78⟩, st78⟩ := Jvm.LawKit.callS X77 hx (y := (⟨"java/lang/Math", "min", "(JJ)J"⟩ : MethodName)) hown (mvT hZ (hw _ (List.mem_of_getElem? (i := 59) rfl))) (mvT hZ (hw _ (List.mem_of_getElem? (i := 57) rfl))) (mvT hZ (hw _ (List.mem_of_getElem? (i := 42) rfl))) (mvT hZ (hw _ (List.mem_of_getElem? (i := 58) rfl))) (by decide) (backOf (W := 2) (rmMin l Z a0 hw [] ((281474976710656 : Int64) * (((vg2.toInt64) + (vwc.toInt64)) - (vwb.toInt64))) ((24 : Int64) + ((((2 : Int64) * (vg2.toInt64)) + ((vh + (2 : Int64)) * (vwc.toInt64))) - (vh * (vwb.toInt64)))) h70 n0 Z70 ) hZ (hw _ (List.mem_of_getElem? (i := 58) rfl)) (hw _ (List.mem_of_getElem? (i := 42) rfl)) (by decide) (by decide)) (g := (mkF m 241 #[.val (.int ia), .val (.int ib), .val (.int ic), .val (.int id), .val (.int ie), .val (.long jh), .second, .val (.int vg), .val (.int vg2), .val (.int vwb), .val (.int vwa), .val (.int vwc), .val (.long vh), .second, .val (.ref b65), .val (.long (((vg2.toInt64) + (vwc.toInt64)) - (vwb.toInt64))), .second, .val (.long ((((2 : Int64) * (vg2.toInt64)) + ((vh + (2 : Int64)) * (vwc.toInt64))) - (vh * (vwb.toInt64)))), .second, .val (.long (4 : Int64)), .second, .val (.long (1099511627776 : Int64)), .second, .val (.long (281474976710656 : Int64)), .second, .val (.int (1 : Int32)), .val (.int (1 : Int32)), .unset] [(.long ((24 : Int64) + ((((2 : Int64) * (vg2.toInt64)) + ((vh + (2 : Int64)) * (vwc.toInt64))) - (vh * (vwb.toInt64))))), (.long ((281474976710656 : Int64) * (((vg2.toInt64) + (vwc.toInt64)) - (vwb.toInt64)))), (.long (own_min ((281474976710656 : Int64) * ((vg2.toInt64 + vwc.toInt64) - vwb.toInt64)) (((4 : Int64) * (6 : Int64)) + ((((2 : Int64) * vg2.toInt64) + ((vh + (2 : Int64)) * vwc.toInt64)) - (vh * vwb.toInt64)))))])) rfl (by rw [hml]; rfl) (argsL := [(.long ((281474976710656 : Int64) * (((vg2.toInt64) + (vwc.toInt64)) - (vwb.toInt64)))), (.long ((24 : Int64) + ((((2 : Int64) * (vg2.toInt64)) + ((vh + (2 : Int64)) * (vwc.toInt64))) - (vh * (vwb.toInt64)))))]) (rest := [(.long (own_min ((281474976710656 : Int64) * ((vg2.toInt64 + vwc.toInt64) - vwb.toInt64)) (((4 : Int64) * (6 : Int64)) + ((((2 : Int64) * vg2.toInt64) + ((vh + (2 : Int64)) * vwc.toInt64)) - (vh * vwb.toInt64)))))]) (lenOf pd__JJ_J rfl) rfl (by show 2 * 0 + _ ≤ _; exact Nat.le_of_eq rfl) (hb hby at_241) (fun _ _ => ⟨rfl, e77, (by decide : 1 + 0 ≤ _), (by decide : 3 + 0 ≤ _)⟩)
  dsimp only [Pt.U, Pt.locs, Pt.cells, Pt.slots] at X78 l78 y78 z78 st78 hQ78
  subst l78 y78 z78
  obtain ⟨h78, e78⟩ : ∃ h, T78.heap = h := ⟨_, rfl⟩
  rw [e78] at hQ78
  obtain ⟨rfl, Nq78, hs78⟩ := hQ78
  have N78 := Fr.app N77 Nq78
  rw [hs78] at e78
  refine Go.step st78 ?_
  show Go _ _ _ _ _ _ _ T78 (mkF m 244 #[.val (.int ia), .val (.int ib), .val (.int ic), .val (.int id), .val (.int ie), .val (.long jh), .second, .val (.int vg), .val (.int vg2), .val (.int vwb), .val (.int vwa), .val (.int vwc), .val (.long vh), .second, .val (.ref b65), .val (.long (((vg2.toInt64) + (vwc.toInt64)) - (vwb.toInt64))), .second, .val (.long ((((2 : Int64) * (vg2.toInt64)) + ((vh + (2 : Int64)) * (vwc.toInt64))) - (vh * (vwb.toInt64)))), .second, .val (.long (4 : Int64)), .second, .val (.long (1099511627776 : Int64)), .second, .val (.long (281474976710656 : Int64)), .second, .val (.int (1 : Int32)), .val (.int (1 : Int32)), .unset] [(.long (own_min ((281474976710656 : Int64) * (((vg2.toInt64) + (vwc.toInt64)) - (vwb.toInt64))) ((24 : Int64) + ((((2 : Int64) * (vg2.toInt64)) + ((vh + (2 : Int64)) * (vwc.toInt64))) - (vh * (vwb.toInt64)))))), (.long (own_min ((281474976710656 : Int64) * ((vg2.toInt64 + vwc.toInt64) - vwb.toInt64)) (((4 : Int64) * (6 : Int64)) + ((((2 : Int64) * vg2.toInt64) + ((vh + (2 : Int64)) * vwc.toInt64)) - (vh * vwb.toInt64)))))])
  refine Go.step (fun _ k => XS.lcmp X78.here hx rfl (hb hby at_244) rfl k) ?_
  show Go _ _ _ _ _ _ _ T78 (mkF m 245 #[.val (.int ia), .val (.int ib), .val (.int ic), .val (.int id), .val (.int ie), .val (.long jh), .second, .val (.int vg), .val (.int vg2), .val (.int vwb), .val (.int vwa), .val (.int vwc), .val (.long vh), .second, .val (.ref b65), .val (.long (((vg2.toInt64) + (vwc.toInt64)) - (vwb.toInt64))), .second, .val (.long ((((2 : Int64) * (vg2.toInt64)) + ((vh + (2 : Int64)) * (vwc.toInt64))) - (vh * (vwb.toInt64)))), .second, .val (.long (4 : Int64)), .second, .val (.long (1099511627776 : Int64)), .second, .val (.long (281474976710656 : Int64)), .second, .val (.int (1 : Int32)), .val (.int (1 : Int32)), .unset] [(.int (lcmpW (own_min ((281474976710656 : Int64) * ((vg2.toInt64 + vwc.toInt64) - vwb.toInt64)) (((4 : Int64) * (6 : Int64)) + ((((2 : Int64) * vg2.toInt64) + ((vh + (2 : Int64)) * vwc.toInt64)) - (vh * vwb.toInt64)))) (own_min ((281474976710656 : Int64) * (((vg2.toInt64) + (vwc.toInt64)) - (vwb.toInt64))) ((24 : Int64) + ((((2 : Int64) * (vg2.toInt64)) + ((vh + (2 : Int64)) * (vwc.toInt64))) - (vh * (vwb.toInt64)))))))])
  have hc245_79 : (own_min ((281474976710656 : Int64) * ((vg2.toInt64 + vwc.toInt64) - vwb.toInt64)) (((4 : Int64) * (6 : Int64)) + ((((2 : Int64) * vg2.toInt64) + ((vh + (2 : Int64)) * vwc.toInt64)) - (vh * vwb.toInt64)))) = (own_min ((281474976710656 : Int64) * (((vg2.toInt64) + (vwc.toInt64)) - (vwb.toInt64))) ((24 : Int64) + ((((2 : Int64) * (vg2.toInt64)) + ((vh + (2 : Int64)) * (vwc.toInt64))) - (vh * (vwb.toInt64))))) := (by congr 1)
  refine Go.step (fun _ k => XS.ifNo X78.here hx rfl (hb hby at_245) rfl ((if0 _ _).trans (teq ((lw_eq _ _).mpr hc245_79)).2) k) ?_
  show Go _ _ _ _ _ _ _ T78 (mkF m 248 #[.val (.int ia), .val (.int ib), .val (.int ic), .val (.int id), .val (.int ie), .val (.long jh), .second, .val (.int vg), .val (.int vg2), .val (.int vwb), .val (.int vwa), .val (.int vwc), .val (.long vh), .second, .val (.ref b65), .val (.long (((vg2.toInt64) + (vwc.toInt64)) - (vwb.toInt64))), .second, .val (.long ((((2 : Int64) * (vg2.toInt64)) + ((vh + (2 : Int64)) * (vwc.toInt64))) - (vh * (vwb.toInt64)))), .second, .val (.long (4 : Int64)), .second, .val (.long (1099511627776 : Int64)), .second, .val (.long (281474976710656 : Int64)), .second, .val (.int (1 : Int32)), .val (.int (1 : Int32)), .unset] [])
  refine Go.step (fun _ k => XS.iconst X78.here hx rfl (hb hby at_248) k) ?_
  show Go _ _ _ _ _ _ _ T78 (mkF m 249 #[.val (.int ia), .val (.int ib), .val (.int ic), .val (.int id), .val (.int ie), .val (.long jh), .second, .val (.int vg), .val (.int vg2), .val (.int vwb), .val (.int vwa), .val (.int vwc), .val (.long vh), .second, .val (.ref b65), .val (.long (((vg2.toInt64) + (vwc.toInt64)) - (vwb.toInt64))), .second, .val (.long ((((2 : Int64) * (vg2.toInt64)) + ((vh + (2 : Int64)) * (vwc.toInt64))) - (vh * (vwb.toInt64)))), .second, .val (.long (4 : Int64)), .second, .val (.long (1099511627776 : Int64)), .second, .val (.long (281474976710656 : Int64)), .second, .val (.int (1 : Int32)), .val (.int (1 : Int32)), .unset] [(.int (1 : Int32))])
  refine Go.step (fun _ k => XS.goto X78.here hx rfl (pc0 := 249) (pc' := 253) rfl (hb hby at_249) (by decide) (by decide) k) ?_
  show Go _ _ _ _ _ _ _ T78 (mkF m 253 #[.val (.int ia), .val (.int ib), .val (.int ic), .val (.int id), .val (.int ie), .val (.long jh), .second, .val (.int vg), .val (.int vg2), .val (.int vwb), .val (.int vwa), .val (.int vwc), .val (.long vh), .second, .val (.ref b65), .val (.long (((vg2.toInt64) + (vwc.toInt64)) - (vwb.toInt64))), .second, .val (.long ((((2 : Int64) * (vg2.toInt64)) + ((vh + (2 : Int64)) * (vwc.toInt64))) - (vh * (vwb.toInt64)))), .second, .val (.long (4 : Int64)), .second, .val (.long (1099511627776 : Int64)), .second, .val (.long (281474976710656 : Int64)), .second, .val (.int (1 : Int32)), .val (.int (1 : Int32)), .unset] [(.int (1 : Int32))])
  refine Go.step (fun _ k => XS.istore X78.here hx rfl (hb hby at_253) rfl (l' := #[.val (.int ia), .val (.int ib), .val (.int ic), .val (.int id), .val (.int ie), .val (.long jh), .second, .val (.int vg), .val (.int vg2), .val (.int vwb), .val (.int vwa), .val (.int vwc), .val (.long vh), .second, .val (.ref b65), .val (.long (((vg2.toInt64) + (vwc.toInt64)) - (vwb.toInt64))), .second, .val (.long ((((2 : Int64) * (vg2.toInt64)) + ((vh + (2 : Int64)) * (vwc.toInt64))) - (vh * (vwb.toInt64)))), .second, .val (.long (4 : Int64)), .second, .val (.long (1099511627776 : Int64)), .second, .val (.long (281474976710656 : Int64)), .second, .val (.int (1 : Int32)), .val (.int (1 : Int32)), .val (.int (1 : Int32))]) rfl k) ?_
  show Go _ _ _ _ _ _ _ T78 (mkF m 255 #[.val (.int ia), .val (.int ib), .val (.int ic), .val (.int id), .val (.int ie), .val (.long jh), .second, .val (.int vg), .val (.int vg2), .val (.int vwb), .val (.int vwa), .val (.int vwc), .val (.long vh), .second, .val (.ref b65), .val (.long (((vg2.toInt64) + (vwc.toInt64)) - (vwb.toInt64))), .second, .val (.long ((((2 : Int64) * (vg2.toInt64)) + ((vh + (2 : Int64)) * (vwc.toInt64))) - (vh * (vwb.toInt64)))), .second, .val (.long (4 : Int64)), .second, .val (.long (1099511627776 : Int64)), .second, .val (.long (281474976710656 : Int64)), .second, .val (.int (1 : Int32)), .val (.int (1 : Int32)), .val (.int (1 : Int32))] [])
  refine Go.step (fun _ k => XS.iload X78.here hx rfl (hb hby at_255) rfl k) ?_
  show Go _ _ _ _ _ _ _ T78 (mkF m 257 #[.val (.int ia), .val (.int ib), .val (.int ic), .val (.int id), .val (.int ie), .val (.long jh), .second, .val (.int vg), .val (.int vg2), .val (.int vwb), .val (.int vwa), .val (.int vwc), .val (.long vh), .second, .val (.ref b65), .val (.long (((vg2.toInt64) + (vwc.toInt64)) - (vwb.toInt64))), .second, .val (.long ((((2 : Int64) * (vg2.toInt64)) + ((vh + (2 : Int64)) * (vwc.toInt64))) - (vh * (vwb.toInt64)))), .second, .val (.long (4 : Int64)), .second, .val (.long (1099511627776 : Int64)), .second, .val (.long (281474976710656 : Int64)), .second, .val (.int (1 : Int32)), .val (.int (1 : Int32)), .val (.int (1 : Int32))] [(.int (1 : Int32))])
  have hc257_80 : ¬ ((1 : Int32) = (0 : Int32)) := (by decide)
  refine Go.step (fun _ k => XS.ifNo X78.here hx rfl (hb hby at_257) rfl ((if0 _ _).trans (feq hc257_80).1) k) ?_
  show Go _ _ _ _ _ _ _ T78 (mkF m 260 #[.val (.int ia), .val (.int ib), .val (.int ic), .val (.int id), .val (.int ie), .val (.long jh), .second, .val (.int vg), .val (.int vg2), .val (.int vwb), .val (.int vwa), .val (.int vwc), .val (.long vh), .second, .val (.ref b65), .val (.long (((vg2.toInt64) + (vwc.toInt64)) - (vwb.toInt64))), .second, .val (.long ((((2 : Int64) * (vg2.toInt64)) + ((vh + (2 : Int64)) * (vwc.toInt64))) - (vh * (vwb.toInt64)))), .second, .val (.long (4 : Int64)), .second, .val (.long (1099511627776 : Int64)), .second, .val (.long (281474976710656 : Int64)), .second, .val (.int (1 : Int32)), .val (.int (1 : Int32)), .val (.int (1 : Int32))] [])
  refine Go.step (fun _ k => XS.iload X78.here hx rfl (hb hby at_260) rfl k) ?_
  show Go _ _ _ _ _ _ _ T78 (mkF m 262 #[.val (.int ia), .val (.int ib), .val (.int ic), .val (.int id), .val (.int ie), .val (.long jh), .second, .val (.int vg), .val (.int vg2), .val (.int vwb), .val (.int vwa), .val (.int vwc), .val (.long vh), .second, .val (.ref b65), .val (.long (((vg2.toInt64) + (vwc.toInt64)) - (vwb.toInt64))), .second, .val (.long ((((2 : Int64) * (vg2.toInt64)) + ((vh + (2 : Int64)) * (vwc.toInt64))) - (vh * (vwb.toInt64)))), .second, .val (.long (4 : Int64)), .second, .val (.long (1099511627776 : Int64)), .second, .val (.long (281474976710656 : Int64)), .second, .val (.int (1 : Int32)), .val (.int (1 : Int32)), .val (.int (1 : Int32))] [(.int (1 : Int32))])
  have hc262_81 : ¬ ((1 : Int32) = (0 : Int32)) := (by decide)
  refine Go.step (fun _ k => XS.ifNo X78.here hx rfl (hb hby at_262) rfl ((if0 _ _).trans (feq hc262_81).1) k) ?_
  show Go _ _ _ _ _ _ _ T78 (mkF m 265 #[.val (.int ia), .val (.int ib), .val (.int ic), .val (.int id), .val (.int ie), .val (.long jh), .second, .val (.int vg), .val (.int vg2), .val (.int vwb), .val (.int vwa), .val (.int vwc), .val (.long vh), .second, .val (.ref b65), .val (.long (((vg2.toInt64) + (vwc.toInt64)) - (vwb.toInt64))), .second, .val (.long ((((2 : Int64) * (vg2.toInt64)) + ((vh + (2 : Int64)) * (vwc.toInt64))) - (vh * (vwb.toInt64)))), .second, .val (.long (4 : Int64)), .second, .val (.long (1099511627776 : Int64)), .second, .val (.long (281474976710656 : Int64)), .second, .val (.int (1 : Int32)), .val (.int (1 : Int32)), .val (.int (1 : Int32))] [])
  refine Go.step (fun _ k => XS.iload X78.here hx rfl (hb hby at_265) rfl k) ?_
  show Go _ _ _ _ _ _ _ T78 (mkF m 267 #[.val (.int ia), .val (.int ib), .val (.int ic), .val (.int id), .val (.int ie), .val (.long jh), .second, .val (.int vg), .val (.int vg2), .val (.int vwb), .val (.int vwa), .val (.int vwc), .val (.long vh), .second, .val (.ref b65), .val (.long (((vg2.toInt64) + (vwc.toInt64)) - (vwb.toInt64))), .second, .val (.long ((((2 : Int64) * (vg2.toInt64)) + ((vh + (2 : Int64)) * (vwc.toInt64))) - (vh * (vwb.toInt64)))), .second, .val (.long (4 : Int64)), .second, .val (.long (1099511627776 : Int64)), .second, .val (.long (281474976710656 : Int64)), .second, .val (.int (1 : Int32)), .val (.int (1 : Int32)), .val (.int (1 : Int32))] [(.int (1 : Int32))])
  have hc267_82 : ¬ ((1 : Int32) = (0 : Int32)) := (by decide)
  refine Go.step (fun _ k => XS.ifNo X78.here hx rfl (hb hby at_267) rfl ((if0 _ _).trans (feq hc267_82).1) k) ?_
  show Go _ _ _ _ _ _ _ T78 (mkF m 270 #[.val (.int ia), .val (.int ib), .val (.int ic), .val (.int id), .val (.int ie), .val (.long jh), .second, .val (.int vg), .val (.int vg2), .val (.int vwb), .val (.int vwa), .val (.int vwc), .val (.long vh), .second, .val (.ref b65), .val (.long (((vg2.toInt64) + (vwc.toInt64)) - (vwb.toInt64))), .second, .val (.long ((((2 : Int64) * (vg2.toInt64)) + ((vh + (2 : Int64)) * (vwc.toInt64))) - (vh * (vwb.toInt64)))), .second, .val (.long (4 : Int64)), .second, .val (.long (1099511627776 : Int64)), .second, .val (.long (281474976710656 : Int64)), .second, .val (.int (1 : Int32)), .val (.int (1 : Int32)), .val (.int (1 : Int32))] [])
  refine Go.step (fun _ k => XS.iconst X78.here hx rfl (hb hby at_270) k) ?_
  show Go _ _ _ _ _ _ _ T78 (mkF m 271 #[.val (.int ia), .val (.int ib), .val (.int ic), .val (.int id), .val (.int ie), .val (.long jh), .second, .val (.int vg), .val (.int vg2), .val (.int vwb), .val (.int vwa), .val (.int vwc), .val (.long vh), .second, .val (.ref b65), .val (.long (((vg2.toInt64) + (vwc.toInt64)) - (vwb.toInt64))), .second, .val (.long ((((2 : Int64) * (vg2.toInt64)) + ((vh + (2 : Int64)) * (vwc.toInt64))) - (vh * (vwb.toInt64)))), .second, .val (.long (4 : Int64)), .second, .val (.long (1099511627776 : Int64)), .second, .val (.long (281474976710656 : Int64)), .second, .val (.int (1 : Int32)), .val (.int (1 : Int32)), .val (.int (1 : Int32))] [(.int (1 : Int32))])
  refine Go.step (fun _ k => XS.goto X78.here hx rfl (pc0 := 271) (pc' := 275) rfl (hb hby at_271) (by decide) (by decide) k) ?_
  show Go _ _ _ _ _ _ _ T78 (mkF m 275 #[.val (.int ia), .val (.int ib), .val (.int ic), .val (.int id), .val (.int ie), .val (.long jh), .second, .val (.int vg), .val (.int vg2), .val (.int vwb), .val (.int vwa), .val (.int vwc), .val (.long vh), .second, .val (.ref b65), .val (.long (((vg2.toInt64) + (vwc.toInt64)) - (vwb.toInt64))), .second, .val (.long ((((2 : Int64) * (vg2.toInt64)) + ((vh + (2 : Int64)) * (vwc.toInt64))) - (vh * (vwb.toInt64)))), .second, .val (.long (4 : Int64)), .second, .val (.long (1099511627776 : Int64)), .second, .val (.long (281474976710656 : Int64)), .second, .val (.int (1 : Int32)), .val (.int (1 : Int32)), .val (.int (1 : Int32))] [(.int (1 : Int32))])
  exact Go.retN X78 hx (t := .boolean) hret hlk (by simp) (hb hby at_275) e78 (by decide) (by decide) ⟨rfl, N78, trivial⟩
set_option maxRecDepth 65536 in
set_option maxHeartbeats 40000000 in
theorem comes_1 {Post : Tables → Env → Array Value → State → Outcome → State → Prop} (hpost : ∀ tb e args s v u, (limb_1_1.after args s (.returned v) u = true ∧ limb_1_2.after args s (.returned v) u = true ∧ True) → FrameEnd s (.returned v) u (Jvm.fieldLocs frame_1_writes args s ++ Jvm.arrayLocs frame_1_arrays args s ++ Jvm.staticLocs frame_1_statics s) 16 128 → Post tb e args s (.returned v) u) :
    ArmFor flags0 classFile x code maxLocals ret World_1 tables_1 room_1 Calls_1 rest_1 Pre_1 Post := by
  intro l hfl _ _ p e ha hc hk s m args below hf hA hF happ hP
  obtain ⟨hcalls, hrest, hpre⟩ := hP
  obtain ⟨-, -, -, hnamed, -, -, -, hat⟩ := (Spec.applies_iff hf).mp happ
  obtain ⟨hg, hn⟩ := and_e (Cond.before_iff.mp (show (Jvm.Cond.and given_1 narrow_1).before args s = true from hpre))
  obtain ⟨gg1, gg2⟩ := and_e hg
  obtain ⟨gg3, gg4⟩ := and_e gg2
  obtain ⟨gg5, gg6⟩ := and_e gg4
  obtain ⟨gg7, gg8⟩ := and_e gg6
  obtain ⟨gg9, gg10⟩ := and_e gg8
  obtain ⟨gg11, gg12⟩ := and_e gg10
  obtain ⟨w0, w1, w2, w3, w4, w5, rfl⟩ : ∃ w0 w1 w2 w3 w4 w5 : Value, args = #[w0, w1, w2, w3, w4, w5] := by
    have hs : args.size = 6 := by simpa [Cond.value, given_1] using gg1
    obtain ⟨L⟩ := args
    match L, hs with
    | [w0, w1, w2, w3, w4, w5], _ => exact ⟨w0, w1, w2, w3, w4, w5, rfl⟩
  have hw := fun d (hd : d ∈ tables_1) => atoms_spec (ws := Jvm.Cond.code x code maxLocals ret :: tables_1) hat d (List.mem_cons_of_mem _ hd)
  have hfit : Fit s := fun {y c} hc i hi => by
    obtain ⟨ha, rfl⟩ := Array.getElem?_eq_some_iff.mp hc
    have q := List.all_eq_true.mp ((Array.all_eq_true_iff_forall_mem.mp hF) _ (Array.getElem_mem ha)) i (List.mem_range.mpr hi)
    simpa [Array.getElem?_eq_getElem hi] using q
  obtain ⟨ia, ei0⟩ := is_v gg3
  obtain rfl : w0 = (.int ia) := Option.some.inj ei0
  obtain ⟨ib, ei1⟩ := is_v gg5
  obtain rfl : w1 = (.int ib) := Option.some.inj ei1
  obtain ⟨ic, ei2⟩ := is_v gg7
  obtain rfl : w2 = (.int ic) := Option.some.inj ei2
  obtain ⟨id, ei3⟩ := is_v gg9
  obtain rfl : w3 = (.int id) := Option.some.inj ei3
  obtain ⟨ie, ei4⟩ := is_v gg11
  obtain rfl : w4 = (.int ie) := Option.some.inj ei4
  obtain ⟨jh, ei5⟩ := isL_v gg12
  obtain rfl : w5 = (.long jh) := Option.some.inj ei5
  obtain ⟨n, o, h1, h2, h3, _, L, rfl, ⟨rfl, N, -⟩, hq⟩ := rm0 l s _ hw tables_1 ia ib ic id ie jh s.heap s.heap.size (Nat.le_refl _)  p e ha hc hk s m _ below hf ((Spec.applies_iff_loose hf).mp happ).1 ⟨rfl, State.Warmed39.refl s, rfl⟩ trivial
  refine ⟨n, _, h1, h2, h3, hpost _ _ _ _ _ _ ⟨Cond.after_iff.mpr rfl, Cond.after_iff.mpr (eq_i res_at (Term.int_eval (1)) rfl), trivial⟩ ⟨hq.1, hq.2.1, (hq.2.2.sift fun y hy => Or.inr (N y hy)).mono (by decide) (by decide)⟩⟩
theorem main_1_1 : Claimed_1_1 := comes_1 fun _ _ _ _ _ _ h hF => ⟨h.1, hF⟩
theorem main_1_2 : Claimed_1_2 := comes_1 fun _ _ _ _ _ _ h hF => ⟨h.2.1, hF⟩
end Jvm.Pilot.@@N@@
namespace Jvm.Pilot.@@N@@
open Jvm Jvm.ClassFile Sem Op Lib Jvm.Free Jvm.Stand Jvm.Pilot.@@N@@.Jvm.D
/-! MADE BY PROGRAM (witnessworld.py) out of the Statement's table words and the real class files: 19 classes; the members and pool entries that the words name. The judged class is class 1, her method 1. -/
namespace start1
open Jvm.ClassFile
def u (s : String) : CpInfo := .utf8 (stringToUtf16 s)
/-- a pool by its gaps: so many unusable entries, then the entry; so many at the end -/
def gap : Nat → List CpInfo → List CpInfo
  | 0, r => r
  | n + 1, r => .unusable :: gap n r
def poolList (es : List (Nat × CpInfo)) (last : Nat) : List CpInfo := es.foldr (fun e r => gap e.1 (e.2 :: r)) (gap last [])
def pool (es : List (Nat × CpInfo)) (last : Nat) : Array CpInfo := ⟨poolList es last⟩
def fileOf (pool : Array CpInfo) (this : Nat) (attrs : Array Attribute := #[]) (ms : Array MethodInfo := #[]) (fl : Nat := 33) (sup : Nat := 0) (ifs : Array Nat := #[]) (fds : Array FieldInfo := #[]) : ClassFile where
  minorVersion := 0
  majorVersion := 65
  constantPool := pool
  accessFlags := fl
  thisClass := this
  superClass := sup
  interfaces := ifs
  fields := fds
  methods := ms
  attributes := attrs
def plain (name : String) (sup : Option ClassId) : Class where
  name := name
  kind := .ordinary
  loader := none
  accessFlags := 33
  super := sup
  interfaces := #[]
  cf := none
  fields := #[]
  methods := #[]
  instanceTypes := #[]
  staticTypes := #[]
  resolved := #[]
  callSites := []
  init := .initialized
  statics := none
  mirror := none

def pool0 : Array CpInfo := pool [(5, u "<init>"), (0, u "()V"), (1, .class_ 10), (1, u "java/lang/Object")] 113

def k0c0 : Code := { maxStack := 0, maxLocals := 1, code := object_method_1_code, exceptionTable := #[], attributes := #[] }
def k0m0 : Method := { name := "<init>", desc := "()V", sig := { parameters := [], returnType := none }, accessFlags := 1, code := some k0c0 }
/-- java/lang/Object -/
def k0 : Class := { plain "java/lang/Object" none with
  accessFlags := 33
  interfaces := #[]
  cf := some (fileOf pool0 8 #[] #[{ accessFlags := 1, nameIndex := 5, descriptorIndex := 6, attributes := #[] }] 33 0 #[] #[])
  fields := #[]
  methods := #[k0m0]
  instanceTypes := #[]
  staticTypes := #[]
  resolved := Array.replicate 124 none
  statics := none }

def pool1 : Array CpInfo := pool [(2, .class_ 4), (0, .nameAndType 5 6), (0, u "java/lang/Object"), (0, u "<init>"), (0, u "()V"), (0, .long 2147483647), (1, .class_ 10), (0, u "com/example/termvault/termvault/FieldLengths$Tally"), (0, .methodref 9 3), (0, .methodref 9 13), (0, .nameAndType 14 15), (0, u "add"), (0, u "(JII)V"), (0, .long 2), (1, .long 4), (1, .long 1099511627776), (1, .long 281474976710656), (1, .methodref 9 25), (0, .nameAndType 26 27), (0, u "bound"), (0, u "(J)J"), (0, .methodref 29 30), (0, .class_ 31), (0, .nameAndType 32 33), (0, u "java/lang/Math"), (0, u "min"), (0, u "(JJ)J"), (0, .long 5), (1, .long 6), (1, .class_ 39), (0, u "com/example/termvault/termvault/TallyAddPinLaw"), (2, u "law"), (0, u "(IIIIIJ)Z")] 7

def k1m0 : Method := { name := "<init>", desc := "()V", sig := { parameters := [], returnType := none }, accessFlags := 2, code := none }
def k1c1 : Code := { maxStack := 8, maxLocals := 28, code := code, exceptionTable := #[], attributes := #[] }
def k1m1 : Method := { name := "law", desc := "(IIIIIJ)Z", sig := { parameters := [.int, .int, .int, .int, .int, .long], returnType := some .boolean }, accessFlags := 9, code := some k1c1 }
/-- com/example/termvault/termvault/TallyAddPinLaw -/
def k1 : Class := { plain "com/example/termvault/termvault/TallyAddPinLaw" (some 0) with
  accessFlags := 49
  interfaces := #[]
  cf := some (fileOf pool1 38 #[] #[{ accessFlags := 2, nameIndex := 5, descriptorIndex := 6, attributes := #[] }, { accessFlags := 9, nameIndex := 42, descriptorIndex := 43, attributes := #[] }] 49 2 #[] #[])
  fields := #[]
  methods := #[k1m0, k1m1]
  instanceTypes := #[]
  staticTypes := #[]
  resolved := Array.replicate 51 none
  statics := none }

def pool2 : Array CpInfo := pool [(1, .methodref 2 3), (0, .class_ 4), (0, .nameAndType 5 6), (0, u "java/lang/Object"), (0, u "<init>"), (0, u "()V"), (0, .fieldref 8 9), (0, .class_ 10), (0, .nameAndType 11 12), (0, u "com/example/termvault/termvault/FieldLengths$Tally"), (0, u "widths"), (0, u "J"), (0, .fieldref 8 14), (0, .nameAndType 15 12), (0, u "holders"), (0, .fieldref 8 17), (0, .nameAndType 18 12), (0, u "holderBytes"), (0, .methodref 20 21), (0, .class_ 22), (0, .nameAndType 23 24), (0, u "com/example/termvault/termvault/FieldLengths"), (0, u "everyDocumentBytes"), (0, u "(JJ)J"), (0, .methodref 20 26), (0, .nameAndType 27 28), (0, u "listingBytes"), (0, u "(JJJ)J"), (0, .methodref 30 31), (0, .class_ 32), (0, .nameAndType 33 24), (0, u "java/lang/Math"), (0, u "min"), (3, u "add"), (0, u "(JII)V"), (0, u "bound"), (0, u "(J)J")] 5

def k2c0 : Code := { maxStack := 1, maxLocals := 1, code := prog_41_method_1_code, exceptionTable := #[], attributes := #[] }
def k2m0 : Method := { name := "<init>", desc := "()V", sig := { parameters := [], returnType := none }, accessFlags := 0, code := some k2c0 }
def k2c1 : Code := { maxStack := 9, maxLocals := 5, code := prog_41_method_3_code, exceptionTable := #[], attributes := #[] }
def k2m1 : Method := { name := "add", desc := "(JII)V", sig := { parameters := [.long, .int, .int], returnType := none }, accessFlags := 0, code := some k2c1 }
def k2c2 : Code := { maxStack := 8, maxLocals := 5, code := prog_41_method_4_code, exceptionTable := #[], attributes := #[] }
def k2m2 : Method := { name := "bound", desc := "(J)J", sig := { parameters := [.long], returnType := some .long }, accessFlags := 0, code := some k2c2 }
/-- com/example/termvault/termvault/FieldLengths$Tally -/
def k2 : Class := { plain "com/example/termvault/termvault/FieldLengths$Tally" (some 0) with
  accessFlags := 48
  interfaces := #[]
  cf := some (fileOf pool2 8 #[.nestHost 20] #[{ accessFlags := 0, nameIndex := 5, descriptorIndex := 6, attributes := #[] }, { accessFlags := 0, nameIndex := 37, descriptorIndex := 38, attributes := #[] }, { accessFlags := 0, nameIndex := 39, descriptorIndex := 40, attributes := #[] }] 48 2 #[] #[{ accessFlags := 2, nameIndex := 11, descriptorIndex := 12, attributes := #[] }, { accessFlags := 2, nameIndex := 15, descriptorIndex := 12, attributes := #[] }, { accessFlags := 2, nameIndex := 18, descriptorIndex := 12, attributes := #[] }])
  fields := #[{ name := "widths", type := .long, accessFlags := 2, slot := 0, constantValue := 0 }, { name := "holders", type := .long, accessFlags := 2, slot := 1, constantValue := 0 }, { name := "holderBytes", type := .long, accessFlags := 2, slot := 2, constantValue := 0 }]
  methods := #[k2m0, k2m1, k2m2]
  instanceTypes := #[.long, .long, .long]
  staticTypes := #[]
  resolved := Array.replicate 46 none
  statics := none }

def pool3 : Array CpInfo := pool [(2, .class_ 4), (1, u "java/lang/Object"), (0, u "<init>"), (0, u "()V"), (0, .class_ 8), (0, u "java/lang/Record")] 13

def k3m0 : Method := { name := "<init>", desc := "()V", sig := { parameters := [], returnType := none }, accessFlags := 4, code := none }
/-- java/lang/Record -/
def k3 : Class := { plain "java/lang/Record" (some 0) with
  accessFlags := 1057
  interfaces := #[]
  cf := some (fileOf pool3 7 #[] #[{ accessFlags := 4, nameIndex := 5, descriptorIndex := 6, attributes := #[] }] 1057 2 #[] #[])
  fields := #[]
  methods := #[k3m0]
  instanceTypes := #[]
  staticTypes := #[]
  resolved := Array.replicate 22 none
  statics := none }

def pool4 : Array CpInfo := pool [(4, .class_ 6), (1, u "java/lang/Record"), (3, .class_ 12), (1, u "com/example/termvault/termvault/FieldLengths"), (0, u "listed"), (0, u "I"), (2, u "numbers"), (0, u "Lcom/example/termvault/termvault/UnsignedTable;"), (2, u "lengths"), (0, .methodref 23 24), (0, .class_ 25), (0, .nameAndType 26 27), (0, u "com/example/termvault/termvault/UnsignedTable"), (0, u "width"), (0, u "(J)I"), (2, u "listingBytes"), (0, u "(JJJ)J"), (2, u "everyDocumentBytes"), (0, u "(JJ)J"), (0, .methodref 10 37), (0, .nameAndType 38 27), (0, u "numberWidth"), (53, .methodref 93 94), (0, .class_ 95), (0, .nameAndType 96 35), (0, u "java/lang/Math"), (0, u "max"), (12, u "MOST_ENTRY_BYTES"), (23, .class_ 134), (0, u "com/example/termvault/termvault/FieldLengths$Tally"), (0, .class_ 136), (0, u "com/example/termvault/termvault/FieldLengths$Each")] 22

def k4c0 : Code := { maxStack := 4, maxLocals := 2, code := prog_39_method_12_code, exceptionTable := #[], attributes := #[] }
def k4m0 : Method := { name := "numberWidth", desc := "(J)I", sig := { parameters := [.long], returnType := some .int }, accessFlags := 10, code := some k4c0 }
def k4c1 : Code := { maxStack := 4, maxLocals := 4, code := prog_39_method_13_code, exceptionTable := #[], attributes := #[] }
def k4m1 : Method := { name := "everyDocumentBytes", desc := "(JJ)J", sig := { parameters := [.long, .long], returnType := some .long }, accessFlags := 10, code := some k4c1 }
def k4c2 : Code := { maxStack := 4, maxLocals := 6, code := prog_39_method_14_code, exceptionTable := #[], attributes := #[] }
def k4m2 : Method := { name := "listingBytes", desc := "(JJJ)J", sig := { parameters := [.long, .long, .long], returnType := some .long }, accessFlags := 10, code := some k4c2 }
/-- com/example/termvault/termvault/FieldLengths -/
def k4 : Class := { plain "com/example/termvault/termvault/FieldLengths" (some 3) with
  accessFlags := 48
  interfaces := #[]
  cf := some (fileOf pool4 10 #[.nestMembers #[133, 135]] #[{ accessFlags := 10, nameIndex := 38, descriptorIndex := 27, attributes := #[] }, { accessFlags := 10, nameIndex := 34, descriptorIndex := 35, attributes := #[] }, { accessFlags := 10, nameIndex := 30, descriptorIndex := 31, attributes := #[] }] 48 4 #[] #[{ accessFlags := 18, nameIndex := 13, descriptorIndex := 14, attributes := #[] }, { accessFlags := 18, nameIndex := 17, descriptorIndex := 18, attributes := #[] }, { accessFlags := 18, nameIndex := 21, descriptorIndex := 18, attributes := #[] }, { accessFlags := 24, nameIndex := 109, descriptorIndex := 14, attributes := #[] }])
  fields := #[{ name := "listed", type := .int, accessFlags := 18, slot := 0, constantValue := 0 }, { name := "numbers", type := (.object "com/example/termvault/termvault/UnsignedTable"), accessFlags := 18, slot := 1, constantValue := 0 }, { name := "lengths", type := (.object "com/example/termvault/termvault/UnsignedTable"), accessFlags := 18, slot := 2, constantValue := 0 }, { name := "MOST_ENTRY_BYTES", type := .int, accessFlags := 24, slot := 0, constantValue := 0 }]
  methods := #[k4m0, k4m1, k4m2]
  instanceTypes := #[.int, (.object "com/example/termvault/termvault/UnsignedTable"), (.object "com/example/termvault/termvault/UnsignedTable")]
  staticTypes := #[.int]
  resolved := Array.replicate 159 none
  statics := none }

def pool5 : Array CpInfo := pool [(1, .class_ 2), (0, u "java/lang/Math"), (1, .class_ 6), (1, u "java/lang/Object"), (0, u "<init>"), (0, u "()V"), (89, .class_ 100), (1, u "java/lang/Math$RandomNumberGeneratorHolder"), (20, u "(JJ)J"), (50, u "negativeZeroFloatBits"), (0, u "J"), (2, u "negativeZeroDoubleBits"), (21, u "max"), (2, u "min"), (43, u "$assertionsDisabled"), (0, u "Z"), (91, u "twoToTheDoubleScaleDown"), (0, u "D"), (4, u "twoToTheDoubleScaleUp"), (9, u "E"), (3, u "PI"), (2, u "TAU"), (2, u "DEGREES_TO_RADIANS"), (0, u "RADIANS_TO_DEGREES")] 94

def k5m0 : Method := { name := "<init>", desc := "()V", sig := { parameters := [], returnType := none }, accessFlags := 2, code := none }
def k5c1 : Code := { maxStack := 4, maxLocals := 4, code := jdk_29_method_66_code, exceptionTable := #[], attributes := #[] }
def k5m1 : Method := { name := "max", desc := "(JJ)J", sig := { parameters := [.long, .long], returnType := some .long }, accessFlags := 9, code := some k5c1 }
def k5c2 : Code := { maxStack := 4, maxLocals := 4, code := jdk_29_method_70_code, exceptionTable := #[], attributes := #[] }
def k5m2 : Method := { name := "min", desc := "(JJ)J", sig := { parameters := [.long, .long], returnType := some .long }, accessFlags := 9, code := some k5c2 }
/-- java/lang/Math -/
def k5 : Class := { plain "java/lang/Math" (some 0) with
  accessFlags := 49
  interfaces := #[]
  cf := some (fileOf pool5 1 #[.nestMembers #[98]] #[{ accessFlags := 2, nameIndex := 7, descriptorIndex := 8, attributes := #[] }, { accessFlags := 9, nameIndex := 198, descriptorIndex := 121, attributes := #[] }, { accessFlags := 9, nameIndex := 201, descriptorIndex := 121, attributes := #[] }] 49 4 #[] #[{ accessFlags := 25, nameIndex := 354, descriptorIndex := 339, attributes := #[] }, { accessFlags := 25, nameIndex := 358, descriptorIndex := 339, attributes := #[] }, { accessFlags := 25, nameIndex := 361, descriptorIndex := 339, attributes := #[] }, { accessFlags := 26, nameIndex := 364, descriptorIndex := 339, attributes := #[] }, { accessFlags := 26, nameIndex := 365, descriptorIndex := 339, attributes := #[] }, { accessFlags := 26, nameIndex := 172, descriptorIndex := 173, attributes := #[] }, { accessFlags := 26, nameIndex := 176, descriptorIndex := 173, attributes := #[] }, { accessFlags := 8, nameIndex := 344, descriptorIndex := 339, attributes := #[] }, { accessFlags := 8, nameIndex := 338, descriptorIndex := 339, attributes := #[] }, { accessFlags := 4120, nameIndex := 245, descriptorIndex := 246, attributes := #[] }])
  fields := #[{ name := "E", type := .double, accessFlags := 25, slot := 0, constantValue := 0 }, { name := "PI", type := .double, accessFlags := 25, slot := 1, constantValue := 0 }, { name := "TAU", type := .double, accessFlags := 25, slot := 2, constantValue := 0 }, { name := "DEGREES_TO_RADIANS", type := .double, accessFlags := 26, slot := 3, constantValue := 0 }, { name := "RADIANS_TO_DEGREES", type := .double, accessFlags := 26, slot := 4, constantValue := 0 }, { name := "negativeZeroFloatBits", type := .long, accessFlags := 26, slot := 5, constantValue := 0 }, { name := "negativeZeroDoubleBits", type := .long, accessFlags := 26, slot := 6, constantValue := 0 }, { name := "twoToTheDoubleScaleUp", type := .double, accessFlags := 8, slot := 7, constantValue := 0 }, { name := "twoToTheDoubleScaleDown", type := .double, accessFlags := 8, slot := 8, constantValue := 0 }, { name := "$assertionsDisabled", type := .boolean, accessFlags := 4120, slot := 9, constantValue := 0 }]
  methods := #[k5m0, k5m1, k5m2]
  instanceTypes := #[]
  staticTypes := #[.double, .double, .double, .double, .double, .long, .long, .double, .double, .boolean]
  resolved := Array.replicate 460 none
  statics := none }

def pool6 : Array CpInfo := pool [(2, .class_ 4), (1, u "java/lang/Record"), (3, .class_ 10), (1, u "com/example/termvault/termvault/UnsignedTable"), (0, u "width"), (0, u "I"), (2, u "offset"), (0, u "J"), (2, u "(J)I"), (45, .class_ 66), (0, u "java/lang/Long"), (0, .methodref 65 68), (0, .nameAndType 69 19), (0, u "numberOfLeadingZeros")] 90

def k6c0 : Code := { maxStack := 3, maxLocals := 2, code := prog_171_method_6_code, exceptionTable := #[], attributes := #[] }
def k6m0 : Method := { name := "width", desc := "(J)I", sig := { parameters := [.long], returnType := some .int }, accessFlags := 8, code := some k6c0 }
/-- com/example/termvault/termvault/UnsignedTable -/
def k6 : Class := { plain "com/example/termvault/termvault/UnsignedTable" (some 3) with
  accessFlags := 48
  interfaces := #[]
  cf := some (fileOf pool6 8 #[] #[{ accessFlags := 8, nameIndex := 11, descriptorIndex := 19, attributes := #[] }] 48 2 #[] #[{ accessFlags := 18, nameIndex := 11, descriptorIndex := 12, attributes := #[] }, { accessFlags := 18, nameIndex := 15, descriptorIndex := 16, attributes := #[] }])
  fields := #[{ name := "width", type := .int, accessFlags := 18, slot := 0, constantValue := 0 }, { name := "offset", type := .long, accessFlags := 18, slot := 1, constantValue := 0 }]
  methods := #[k6m0]
  instanceTypes := #[.int, .long]
  staticTypes := #[]
  resolved := Array.replicate 160 none
  statics := none }

def pool7 : Array CpInfo := pool [(1, .class_ 2), (0, u "java/io/Serializable"), (0, .class_ 4), (0, u "java/lang/Object")] 2

/-- java/io/Serializable -/
def k7 : Class := { plain "java/io/Serializable" (some 0) with
  accessFlags := 1537
  interfaces := #[]
  cf := some (fileOf pool7 1 #[] #[] 1537 3 #[] #[])
  fields := #[]
  methods := #[]
  instanceTypes := #[]
  staticTypes := #[]
  resolved := Array.replicate 7 none
  statics := none }

def pool8 : Array CpInfo := pool [(2, .class_ 4), (1, u "java/lang/Object"), (0, u "<init>"), (0, u "()V"), (1, .class_ 10), (1, u "java/lang/Number"), (2, .class_ 14), (0, u "java/io/Serializable"), (0, u "serialVersionUID"), (0, u "J")] 20

def k8m0 : Method := { name := "<init>", desc := "()V", sig := { parameters := [], returnType := none }, accessFlags := 1, code := none }
/-- java/lang/Number -/
def k8 : Class := { plain "java/lang/Number" (some 0) with
  accessFlags := 1057
  interfaces := #[7]
  cf := some (fileOf pool8 8 #[] #[{ accessFlags := 1, nameIndex := 5, descriptorIndex := 6, attributes := #[] }] 1057 2 #[13] #[{ accessFlags := 26, nameIndex := 15, descriptorIndex := 16, attributes := #[] }])
  fields := #[{ name := "serialVersionUID", type := .long, accessFlags := 26, slot := 0, constantValue := 0 }]
  methods := #[k8m0]
  instanceTypes := #[]
  staticTypes := #[.long]
  resolved := Array.replicate 37 none
  statics := none }

def pool9 : Array CpInfo := pool [(1, .class_ 2), (0, u "java/lang/Comparable"), (0, .class_ 4), (0, u "java/lang/Object")] 7

/-- java/lang/Comparable -/
def k9 : Class := { plain "java/lang/Comparable" (some 0) with
  accessFlags := 1537
  interfaces := #[]
  cf := some (fileOf pool9 1 #[] #[] 1537 3 #[] #[])
  fields := #[]
  methods := #[]
  instanceTypes := #[]
  staticTypes := #[]
  resolved := Array.replicate 12 none
  statics := none }

def pool10 : Array CpInfo := pool [(1, .class_ 2), (0, u "java/lang/constant/Constable"), (0, .class_ 4), (0, u "java/lang/Object")] 6

/-- java/lang/constant/Constable -/
def k10 : Class := { plain "java/lang/constant/Constable" (some 0) with
  accessFlags := 1537
  interfaces := #[]
  cf := some (fileOf pool10 1 #[] #[] 1537 3 #[] #[])
  fields := #[]
  methods := #[]
  instanceTypes := #[]
  staticTypes := #[]
  resolved := Array.replicate 11 none
  statics := none }

def pool11 : Array CpInfo := pool [(1, .class_ 2), (0, u "java/lang/constant/ConstantDesc"), (0, .class_ 4), (0, u "java/lang/Object")] 32

/-- java/lang/constant/ConstantDesc -/
def k11 : Class := { plain "java/lang/constant/ConstantDesc" (some 0) with
  accessFlags := 1537
  interfaces := #[]
  cf := some (fileOf pool11 1 #[] #[] 1537 3 #[] #[])
  fields := #[]
  methods := #[]
  instanceTypes := #[]
  staticTypes := #[]
  resolved := Array.replicate 37 none
  statics := none }

def pool12 : Array CpInfo := pool [(1, .class_ 2), (0, u "java/lang/Long"), (15, .class_ 20), (1, u "java/lang/Integer"), (79, u "numberOfLeadingZeros"), (0, u "(J)I"), (133, .class_ 237), (1, u "java/lang/Long$LongCache"), (33, .class_ 272), (0, u "java/lang/Number"), (2, u "value"), (0, u "J"), (31, .methodref 18 309), (0, .nameAndType 100 310), (0, u "(I)I"), (50, u "TYPE"), (0, u "Ljava/lang/Class;"), (0, .class_ 364), (0, u "java/lang/Comparable"), (0, .class_ 366), (0, u "java/lang/constant/Constable"), (0, .class_ 368), (0, u "java/lang/constant/ConstantDesc"), (0, u "MIN_VALUE"), (1, u "MAX_VALUE"), (4, u "SIZE"), (0, u "I"), (1, u "BYTES"), (1, u "serialVersionUID")] 142

def k12c0 : Code := { maxStack := 3, maxLocals := 3, code := jdk_35_method_48_code, exceptionTable := #[], attributes := #[] }
def k12m0 : Method := { name := "numberOfLeadingZeros", desc := "(J)I", sig := { parameters := [.long], returnType := some .int }, accessFlags := 9, code := some k12c0 }
/-- java/lang/Long -/
def k12 : Class := { plain "java/lang/Long" (some 8) with
  accessFlags := 49
  interfaces := #[9, 10, 11]
  cf := some (fileOf pool12 1 #[.nestMembers #[235]] #[{ accessFlags := 9, nameIndex := 100, descriptorIndex := 101, attributes := #[] }] 49 271 #[363, 365, 367] #[{ accessFlags := 25, nameIndex := 369, descriptorIndex := 276, attributes := #[] }, { accessFlags := 25, nameIndex := 371, descriptorIndex := 276, attributes := #[] }, { accessFlags := 25, nameIndex := 361, descriptorIndex := 362, attributes := #[] }, { accessFlags := 18, nameIndex := 275, descriptorIndex := 276, attributes := #[] }, { accessFlags := 25, nameIndex := 376, descriptorIndex := 377, attributes := #[] }, { accessFlags := 25, nameIndex := 379, descriptorIndex := 377, attributes := #[] }, { accessFlags := 26, nameIndex := 381, descriptorIndex := 276, attributes := #[] }])
  fields := #[{ name := "MIN_VALUE", type := .long, accessFlags := 25, slot := 0, constantValue := 0 }, { name := "MAX_VALUE", type := .long, accessFlags := 25, slot := 1, constantValue := 0 }, { name := "TYPE", type := (.object "java/lang/Class"), accessFlags := 25, slot := 2, constantValue := 0 }, { name := "value", type := .long, accessFlags := 18, slot := 0, constantValue := 0 }, { name := "SIZE", type := .int, accessFlags := 25, slot := 3, constantValue := 0 }, { name := "BYTES", type := .int, accessFlags := 25, slot := 4, constantValue := 0 }, { name := "serialVersionUID", type := .long, accessFlags := 26, slot := 5, constantValue := 0 }]
  methods := #[k12m0]
  instanceTypes := #[.long]
  staticTypes := #[.long, .long, (.object "java/lang/Class"), .int, .int, .long]
  resolved := Array.replicate 524 none
  statics := none }

def pool13 : Array CpInfo := pool [(1, .class_ 2), (0, u "java/lang/Integer"), (16, u "digits"), (0, u "[C"), (32, u "numberOfLeadingZeros"), (0, u "(I)I"), (30, u "DigitOnes"), (0, u "[B"), (2, u "DigitTens"), (99, .class_ 190), (0, u "java/lang/Integer$IntegerCache"), (3, u "I"), (8, .class_ 204), (0, u "java/lang/Number"), (2, u "value"), (56, .integer 65536), (37, u "TYPE"), (0, u "Ljava/lang/Class;"), (0, .class_ 305), (0, u "java/lang/Comparable"), (0, .class_ 307), (0, u "java/lang/constant/Constable"), (0, .class_ 309), (0, u "java/lang/constant/ConstantDesc"), (0, u "MIN_VALUE"), (1, u "MAX_VALUE"), (3, u "SIZE"), (1, u "BYTES"), (1, u "serialVersionUID"), (0, u "J")] 131

def k13c0 : Code := { maxStack := 3, maxLocals := 2, code := jdk_33_method_47_code, exceptionTable := #[], attributes := #[] }
def k13m0 : Method := { name := "numberOfLeadingZeros", desc := "(I)I", sig := { parameters := [.int], returnType := some .int }, accessFlags := 9, code := some k13c0 }
/-- java/lang/Integer -/
def k13 : Class := { plain "java/lang/Integer" (some 8) with
  accessFlags := 49
  interfaces := #[9, 10, 11]
  cf := some (fileOf pool13 1 #[.nestMembers #[189]] #[{ accessFlags := 9, nameIndex := 53, descriptorIndex := 54, attributes := #[] }] 49 203 #[304, 306, 308] #[{ accessFlags := 25, nameIndex := 310, descriptorIndex := 194, attributes := #[] }, { accessFlags := 25, nameIndex := 312, descriptorIndex := 194, attributes := #[] }, { accessFlags := 25, nameIndex := 302, descriptorIndex := 303, attributes := #[] }, { accessFlags := 24, nameIndex := 19, descriptorIndex := 20, attributes := #[] }, { accessFlags := 24, nameIndex := 89, descriptorIndex := 86, attributes := #[] }, { accessFlags := 24, nameIndex := 85, descriptorIndex := 86, attributes := #[] }, { accessFlags := 18, nameIndex := 207, descriptorIndex := 194, attributes := #[] }, { accessFlags := 25, nameIndex := 316, descriptorIndex := 194, attributes := #[] }, { accessFlags := 25, nameIndex := 318, descriptorIndex := 194, attributes := #[] }, { accessFlags := 26, nameIndex := 320, descriptorIndex := 321, attributes := #[] }])
  fields := #[{ name := "MIN_VALUE", type := .int, accessFlags := 25, slot := 0, constantValue := 0 }, { name := "MAX_VALUE", type := .int, accessFlags := 25, slot := 1, constantValue := 0 }, { name := "TYPE", type := (.object "java/lang/Class"), accessFlags := 25, slot := 2, constantValue := 0 }, { name := "digits", type := (.array .char), accessFlags := 24, slot := 3, constantValue := 0 }, { name := "DigitTens", type := (.array .byte), accessFlags := 24, slot := 4, constantValue := 0 }, { name := "DigitOnes", type := (.array .byte), accessFlags := 24, slot := 5, constantValue := 0 }, { name := "value", type := .int, accessFlags := 18, slot := 0, constantValue := 0 }, { name := "SIZE", type := .int, accessFlags := 25, slot := 6, constantValue := 0 }, { name := "BYTES", type := .int, accessFlags := 25, slot := 7, constantValue := 0 }, { name := "serialVersionUID", type := .long, accessFlags := 26, slot := 8, constantValue := 0 }]
  methods := #[k13m0]
  instanceTypes := #[.int]
  staticTypes := #[.int, .int, (.object "java/lang/Class"), (.array .char), (.array .byte), (.array .byte), .int, .int, .long]
  resolved := Array.replicate 453 none
  statics := none }

def pool14 : Array CpInfo := pool [(1, u "java/lang/Cloneable"), (0, .class_ 1), (0, u "java/lang/Object"), (0, .class_ 3)] 3

/-- java/lang/Cloneable -/
def k14 : Class := { plain "java/lang/Cloneable" (some 0) with
  accessFlags := 1537
  interfaces := #[]
  cf := some (fileOf pool14 2 #[] #[] 1537 4 #[] #[])
  fields := #[]
  methods := #[]
  instanceTypes := #[]
  staticTypes := #[]
  resolved := Array.replicate 8 none
  statics := none }

/-- the primitive byte -/
def k15 : Class := { plain "byte" none with kind := .primitive 'B', accessFlags := 0x411 }
/-- [B -/
def k16 : Class := { plain "[B" (some 0) with kind := .array 15 .byte, interfaces := #[14, 7], accessFlags := 1041 }

/-- the primitive int -/
def k17 : Class := { plain "int" none with kind := .primitive 'I', accessFlags := 0x411 }
/-- [I -/
def k18 : Class := { plain "[I" (some 0) with kind := .array 17 .int, interfaces := #[14, 7], accessFlags := 1041 }

def heap : Heap := #[]
def classes : Array Class := #[k0, k1, k2, k3, k4, k5, k6, k7, k8, k9, k10, k11, k12, k13, k14, k15, k16, k17, k18]
def interned : List (Array UInt16 × Addr) := []
def slotsUsed : Nat := 0
def theMethod : MethodId := ⟨1, 1⟩
def args0 : Array Value := #[.int 5, .int 7, .int 3, .int 2, .int 1, .long 9]
def aboutOver (below : List Frame) : State where
  vm := { classes := classes, interned := interned.toArray }
  heap := heap
  slotsUsed := slotsUsed
  threads := #[{ frames := .invoking theMethod args0 :: below }]
def below0 : List Frame := [.native { method := ⟨0, 0⟩, args := #[] }]
def about1 : State := aboutOver below0
def p0 : Program := .bare "" "" ""
def e0 : Env := launch0.env 0 0 0
theorem w_frames : about1.frames = Frame.invoking theMethod args0 :: below0 := rfl
set_option maxRecDepth 65536 in
theorem w_args : argsFit about1.vm theMethod args0 = true := by decide +kernel
set_option maxRecDepth 65536 in
theorem w_heap : heapFits about1 = true := by decide +kernel
set_option maxRecDepth 65536 in
theorem w_runnable : about1.curStatus? = some .runnable := by decide +kernel
set_option maxRecDepth 65536 in
theorem w_alone : about1.alone = true := by decide +kernel
set_option maxRecDepth 65536 in
theorem w_named : about1.methodNamed? x = some theMethod := by decide +kernel
set_option maxRecDepth 65536 in
theorem w_hears : about1.hears theMethod below0 = true := by decide +kernel
set_option maxRecDepth 65536 in
theorem w_ripe : about1.ripe theMethod args0 below0 = true := by decide +kernel
theorem w_running : about1.status = .running := rfl
set_option maxRecDepth 65536 in
theorem w_room : about1.hasRoom e0.platform room_1 = true :=
  launch0.hasRoom_least _ room_1 (by decide +kernel) (by decide +kernel) (by decide +kernel) (by decide +kernel) (by decide +kernel) (by decide +kernel)
theorem allAtoms_all (ts : List Jvm.Cond) (a : Array Jvm.Value) (st : Jvm.State) : (allAtoms ts).before a st = ts.all (fun c => c.before a st) := by
  induction ts with
  | nil => rfl
  | cons c t ih =>
    show (Jvm.Cond.and c (allAtoms t)).before a st = _
    rw [Jvm.Cond.before_and, ih, List.all_cons]
def words1 : List Jvm.Cond := Jvm.Cond.code x code maxLocals ret :: tables_1
/-- a 'code' word, met by the world's own term for the bytes: nothing is compared byte by byte -/
theorem code_word {y : MethodName} {bytes : ByteArray} {mx : Nat} {rt : Option FieldType} {a : Array Value} {s : State} {m : MethodId} {meth : Method} {c : Code} (h1 : s.methodNamed? y = some m) (h2 : s.vm.method? m = some meth) (h3 : meth.code = some c) (h4 : c.code = bytes)
    (h5 : (c.maxLocals == mx && c.exceptionTable.isEmpty && decide (c.maxStack ≤ mostOperands) && decide (meth.sig.returnType = rt) && !meth.locks && decide (parseMethodDescriptor y.desc = some meth.sig)) = true) : (Jvm.Cond.code y bytes mx rt).before a s = true := by
  simp only [Bool.and_eq_true, beq_iff_eq, Bool.not_eq_true', decide_eq_true_eq] at h5
  obtain ⟨⟨⟨⟨⟨g1, g2⟩, g3⟩, g4⟩, g5⟩, g6⟩ := h5
  simp [Cond.before, Cond.holds, Cond.value, h1, h2, h3, h4, g1, g2, g3, g4, g5, g6]
def isCode : Jvm.Cond → Bool
  | .code _ _ _ _ => true
  | _ => false
theorem all_split {L : List Jvm.Cond} {P : Jvm.Cond → Bool} (h1 : L.all (fun c => isCode c || P c) = true) (h2 : ∀ c ∈ L.filter isCode, P c = true) : L.all P = true := by
  refine List.all_eq_true.mpr fun c hc => ?_
  have h := List.all_eq_true.mp h1 c hc
  rcases Bool.eq_false_or_eq_true (isCode c) with hi | hi
  · exact h2 c (List.mem_filter.mpr ⟨hc, hi⟩)
  · simpa [hi] using h
set_option maxRecDepth 65536 in
theorem w_c0 : (Jvm.Cond.code x code maxLocals ret).before args0 about1 = true := code_word (m := ⟨1, 1⟩) (meth := k1m1) (c := k1c1) (by decide +kernel) rfl rfl rfl (by decide +kernel)
set_option maxRecDepth 65536 in
theorem w_c1 : (Jvm.Cond.code ({ cls := "com/example/termvault/termvault/FieldLengths$Tally", name := "<init>", desc := "()V" } : Jvm.MethodName) prog_41_method_1_code (1 : Nat) (Option.none : Option Jvm.ClassFile.FieldType)).before args0 about1 = true := code_word (m := ⟨2, 0⟩) (meth := k2m0) (c := k2c0) (by decide +kernel) rfl rfl rfl (by decide +kernel)
set_option maxRecDepth 65536 in
theorem w_c2 : (Jvm.Cond.code ({ cls := "java/lang/Object", name := "<init>", desc := "()V" } : Jvm.MethodName) object_method_1_code (1 : Nat) (Option.none : Option Jvm.ClassFile.FieldType)).before args0 about1 = true := code_word (m := ⟨0, 0⟩) (meth := k0m0) (c := k0c0) (by decide +kernel) rfl rfl rfl (by decide +kernel)
set_option maxRecDepth 65536 in
theorem w_c3 : (Jvm.Cond.code ({ cls := "com/example/termvault/termvault/FieldLengths$Tally", name := "add", desc := "(JII)V" } : Jvm.MethodName) prog_41_method_3_code (5 : Nat) (Option.none : Option Jvm.ClassFile.FieldType)).before args0 about1 = true := code_word (m := ⟨2, 1⟩) (meth := k2m1) (c := k2c1) (by decide +kernel) rfl rfl rfl (by decide +kernel)
set_option maxRecDepth 65536 in
theorem w_c4 : (Jvm.Cond.code ({ cls := "com/example/termvault/termvault/FieldLengths$Tally", name := "bound", desc := "(J)J" } : Jvm.MethodName) prog_41_method_4_code (5 : Nat) (Option.some Jvm.ClassFile.FieldType.long)).before args0 about1 = true := code_word (m := ⟨2, 2⟩) (meth := k2m2) (c := k2c2) (by decide +kernel) rfl rfl rfl (by decide +kernel)
set_option maxRecDepth 65536 in
theorem w_c5 : (Jvm.Cond.code ({ cls := "com/example/termvault/termvault/FieldLengths", name := "everyDocumentBytes", desc := "(JJ)J" } : Jvm.MethodName) prog_39_method_13_code (4 : Nat) (Option.some Jvm.ClassFile.FieldType.long)).before args0 about1 = true := code_word (m := ⟨4, 1⟩) (meth := k4m1) (c := k4c1) (by decide +kernel) rfl rfl rfl (by decide +kernel)
set_option maxRecDepth 65536 in
theorem w_c6 : (Jvm.Cond.code ({ cls := "com/example/termvault/termvault/FieldLengths", name := "listingBytes", desc := "(JJJ)J" } : Jvm.MethodName) prog_39_method_14_code (6 : Nat) (Option.some Jvm.ClassFile.FieldType.long)).before args0 about1 = true := code_word (m := ⟨4, 2⟩) (meth := k4m2) (c := k4c2) (by decide +kernel) rfl rfl rfl (by decide +kernel)
set_option maxRecDepth 65536 in
theorem w_c7 : (Jvm.Cond.code ({ cls := "com/example/termvault/termvault/FieldLengths", name := "numberWidth", desc := "(J)I" } : Jvm.MethodName) prog_39_method_12_code (2 : Nat) (Option.some Jvm.ClassFile.FieldType.int)).before args0 about1 = true := code_word (m := ⟨4, 0⟩) (meth := k4m0) (c := k4c0) (by decide +kernel) rfl rfl rfl (by decide +kernel)
set_option maxRecDepth 65536 in
theorem w_c8 : (Jvm.Cond.code ({ cls := "java/lang/Math", name := "max", desc := "(JJ)J" } : Jvm.MethodName) jdk_29_method_66_code (4 : Nat) (Option.some Jvm.ClassFile.FieldType.long)).before args0 about1 = true := code_word (m := ⟨5, 1⟩) (meth := k5m1) (c := k5c1) (by decide +kernel) rfl rfl rfl (by decide +kernel)
set_option maxRecDepth 65536 in
theorem w_c9 : (Jvm.Cond.code ({ cls := "com/example/termvault/termvault/UnsignedTable", name := "width", desc := "(J)I" } : Jvm.MethodName) prog_171_method_6_code (2 : Nat) (Option.some Jvm.ClassFile.FieldType.int)).before args0 about1 = true := code_word (m := ⟨6, 0⟩) (meth := k6m0) (c := k6c0) (by decide +kernel) rfl rfl rfl (by decide +kernel)
set_option maxRecDepth 65536 in
theorem w_c10 : (Jvm.Cond.code ({ cls := "java/lang/Long", name := "numberOfLeadingZeros", desc := "(J)I" } : Jvm.MethodName) jdk_35_method_48_code (3 : Nat) (Option.some Jvm.ClassFile.FieldType.int)).before args0 about1 = true := code_word (m := ⟨12, 0⟩) (meth := k12m0) (c := k12c0) (by decide +kernel) rfl rfl rfl (by decide +kernel)
set_option maxRecDepth 65536 in
theorem w_c11 : (Jvm.Cond.code ({ cls := "java/lang/Integer", name := "numberOfLeadingZeros", desc := "(I)I" } : Jvm.MethodName) jdk_33_method_47_code (2 : Nat) (Option.some Jvm.ClassFile.FieldType.int)).before args0 about1 = true := code_word (m := ⟨13, 0⟩) (meth := k13m0) (c := k13c0) (by decide +kernel) rfl rfl rfl (by decide +kernel)
set_option maxRecDepth 65536 in
theorem w_c12 : (Jvm.Cond.code ({ cls := "java/lang/Math", name := "min", desc := "(JJ)J" } : Jvm.MethodName) jdk_29_method_70_code (4 : Nat) (Option.some Jvm.ClassFile.FieldType.long)).before args0 about1 = true := code_word (m := ⟨5, 2⟩) (meth := k5m2) (c := k5c2) (by decide +kernel) rfl rfl rfl (by decide +kernel)
def codes1 : List Jvm.Cond := [Jvm.Cond.code x code maxLocals ret, Jvm.Cond.code ({ cls := "com/example/termvault/termvault/FieldLengths$Tally", name := "<init>", desc := "()V" } : Jvm.MethodName) prog_41_method_1_code (1 : Nat) (Option.none : Option Jvm.ClassFile.FieldType), Jvm.Cond.code ({ cls := "java/lang/Object", name := "<init>", desc := "()V" } : Jvm.MethodName) object_method_1_code (1 : Nat) (Option.none : Option Jvm.ClassFile.FieldType), Jvm.Cond.code ({ cls := "com/example/termvault/termvault/FieldLengths$Tally", name := "add", desc := "(JII)V" } : Jvm.MethodName) prog_41_method_3_code (5 : Nat) (Option.none : Option Jvm.ClassFile.FieldType), Jvm.Cond.code ({ cls := "com/example/termvault/termvault/FieldLengths$Tally", name := "bound", desc := "(J)J" } : Jvm.MethodName) prog_41_method_4_code (5 : Nat) (Option.some Jvm.ClassFile.FieldType.long), Jvm.Cond.code ({ cls := "com/example/termvault/termvault/FieldLengths", name := "everyDocumentBytes", desc := "(JJ)J" } : Jvm.MethodName) prog_39_method_13_code (4 : Nat) (Option.some Jvm.ClassFile.FieldType.long), Jvm.Cond.code ({ cls := "com/example/termvault/termvault/FieldLengths", name := "listingBytes", desc := "(JJJ)J" } : Jvm.MethodName) prog_39_method_14_code (6 : Nat) (Option.some Jvm.ClassFile.FieldType.long), Jvm.Cond.code ({ cls := "com/example/termvault/termvault/FieldLengths", name := "numberWidth", desc := "(J)I" } : Jvm.MethodName) prog_39_method_12_code (2 : Nat) (Option.some Jvm.ClassFile.FieldType.int), Jvm.Cond.code ({ cls := "java/lang/Math", name := "max", desc := "(JJ)J" } : Jvm.MethodName) jdk_29_method_66_code (4 : Nat) (Option.some Jvm.ClassFile.FieldType.long), Jvm.Cond.code ({ cls := "com/example/termvault/termvault/UnsignedTable", name := "width", desc := "(J)I" } : Jvm.MethodName) prog_171_method_6_code (2 : Nat) (Option.some Jvm.ClassFile.FieldType.int), Jvm.Cond.code ({ cls := "java/lang/Long", name := "numberOfLeadingZeros", desc := "(J)I" } : Jvm.MethodName) jdk_35_method_48_code (3 : Nat) (Option.some Jvm.ClassFile.FieldType.int), Jvm.Cond.code ({ cls := "java/lang/Integer", name := "numberOfLeadingZeros", desc := "(I)I" } : Jvm.MethodName) jdk_33_method_47_code (2 : Nat) (Option.some Jvm.ClassFile.FieldType.int), Jvm.Cond.code ({ cls := "java/lang/Math", name := "min", desc := "(JJ)J" } : Jvm.MethodName) jdk_29_method_70_code (4 : Nat) (Option.some Jvm.ClassFile.FieldType.long)]
set_option maxRecDepth 65536 in
theorem codes_eq : words1.filter isCode = codes1 := rfl
theorem w_codes : ∀ c ∈ words1.filter isCode, c.before args0 about1 = true := by
  rw [codes_eq]
  intro c hc
  simp only [codes1, List.mem_cons, List.not_mem_nil, or_false] at hc
  rcases hc with rfl | rfl | rfl | rfl | rfl | rfl | rfl | rfl | rfl | rfl | rfl | rfl | rfl
  · exact w_c0
  · exact w_c1
  · exact w_c2
  · exact w_c3
  · exact w_c4
  · exact w_c5
  · exact w_c6
  · exact w_c7
  · exact w_c8
  · exact w_c9
  · exact w_c10
  · exact w_c11
  · exact w_c12
set_option maxRecDepth 65536 in
theorem w_t1 : (words1.take 24).all (fun c => isCode c || c.before args0 about1) = true := by decide +kernel
set_option maxRecDepth 65536 in
theorem w_t2 : ((words1.drop 24).take 24).all (fun c => isCode c || c.before args0 about1) = true := by decide +kernel
set_option maxRecDepth 65536 in
theorem w_t3 : ((words1.drop 24).drop 24).all (fun c => isCode c || c.before args0 about1) = true := by decide +kernel
theorem w_tables : (allAtoms (Jvm.Cond.code x code maxLocals ret :: tables_1)).before args0 about1 = true := by
  rw [allAtoms_all]
  show words1.all (fun c => c.before args0 about1) = true
  refine all_split ?_ w_codes
  rw [← List.take_append_drop 24 words1, List.all_append, w_t1, ← List.take_append_drop 24 (words1.drop 24), List.all_append, w_t2, w_t3]
  rfl
set_option maxRecDepth 65536 in
theorem w_case : (Jvm.Cond.and given_1 narrow_1).before args0 about1 = true := by decide +kernel
theorem w_applies : (headSpec (Jvm.Cond.code x code maxLocals ret :: tables_1) room_1).applies x e0.platform about1 = true :=
  (Spec.applies_iff w_frames).mpr ⟨w_running, w_runnable, w_alone, w_named, w_hears, w_ripe, w_room, w_tables⟩
theorem atStart : AtStart classFile x code maxLocals ret World_1 tables_1 room_1 Calls_1 rest_1 Pre_1 launch0 p0 e0 about1 theMethod args0 below0 :=
  ⟨lists_1, trivial, launch0.admits_env _ _ _, launch0.least_env, fairChoices_fair.cas, fairChoices_fair.clock, w_frames, w_args, w_heap, w_applies, trivial, trivial, w_case⟩
end start1
theorem witness_1 : WitnessClaimed_1 := ⟨start1.p0, start1.e0, start1.about1, start1.theMethod, start1.args0, start1.below0, start1.atStart⟩
end Jvm.Pilot.@@N@@
