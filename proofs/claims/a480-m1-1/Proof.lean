import JvmDerived
import JvmDerived.Pilot.@@N@@Statement
import JvmDerived.Pilot.@@N@@Code
set_option linter.unusedVariables false
set_option linter.unusedSimpArgs false
set_option maxRecDepth 65536
set_option maxHeartbeats 40000000
namespace Jvm.RoadKit
open Sem ClassFile Op Lib Jvm.Stand Jvm.Free Jvm.LawKit
section OwnRef
variable {p : Program} {l : Launch} {e : Env} {R : Room} {s : State} {m : MethodId} {args : Array Value} {below : List Frame} {meth : Method} {c : Code} {T : State} {locs : List Loc} {cells slots : Nat} {Z : State}
theorem own_specialRef (X : Stand p l e R s m args below meth c T locs cells slots) (hexec : p.tables.exec = Jvm.exec) (hZ : Z.Warmed39 s.vm) {a0 : Array Value} {own : String} {index : Nat} {y : MethodName} (hy1 : y.name = "<init>")
    (hown : s.vm.findClass own = some m.cls) (href : (Cond.methodRef own index y).before a0 Z = true) (hinst0 : (Cond.instanceMethod y).before a0 Z = true) (hinst : (Cond.instanceMethod y).before args s = true)
    {bytes : ByteArray} {maxL : Nat} (hcode : (Cond.code y bytes maxL none).before args s = true)
    (hy : y.cls ≠ "java/lang/invoke/MethodHandle" ∧ y.cls ≠ "java/lang/invoke/VarHandle")
    {W : Nat} {Pre : Pt → Array Value → Prop} {Post : Pt → Array Value → Option Value → Pt → Prop} (hK : Back l R p e below s args y 3 W Pre Post)
    {g : JFrame} (hg : g.method = m) (hsize : g.locals.size = c.maxLocals) {s₀ : State} (hcome : Steps p.tables e below s₀ (T.setTop g)) {a : Addr} {argsL rest : List Value}
    (hlen : ∀ sig, parseMethodDescriptor y.desc = some sig → argsL.length = sig.parameters.length) (hstack : g.stack = argsL.reverse ++ .ref a :: rest) (hW : 2 * g.monitorRoom + (rest.map fun v => v.category).sum ≤ W)
    (hdg : decode c.code g.pc = .ok (.invokespecial index, 3)) (hpre : ∀ vm₁, s.WarmedH vm₁ → Pre ⟨T.setVm vm₁, locs, cells, slots⟩ (.ref a :: argsL).toArray) :
    ∃ (v : Option Value) (vm₁ : Vm) (B : Pt), s.WarmedH vm₁ ∧ Stand p l e R s m args below meth c B.U B.locs B.cells B.slots ∧ Post ⟨T.setVm vm₁, locs, cells, slots⟩ (.ref a :: argsL).toArray v B ∧
      Steps p.tables e below s₀ (B.U.setTop { g with pc := g.pc + 3, stack := v.toList ++ rest }) := by
  obtain ⟨obj0, meth0, hn0, -⟩ := Cond.instanceMethod_spec hinst0
  obtain ⟨obj, methO, hnO, hmO, hstO, habO⟩ := Cond.instanceMethod_spec hinst
  obtain ⟨methO', cO, hmO', hcO, hbO, hlO, -, hlockO, -, hsigO⟩ := Cond.code_spec hnO hcode
  cases hmO.symm.trans hmO'
  obtain ⟨kO, hkO, hnameO⟩ := className_of_methodNamed hnO
  obtain ⟨hnameMO, hdescO⟩ := name_of_methodNamed hnO hmO
  have href1 : (Cond.methodRef own index y).before args s = true := Cond.methodRef_warmed39 hZ hn0 hy href
  have hwarm := X.warmed
  have href2 : (Cond.methodRef own index y).before args (s.setVm T.vm) = true := Cond.methodRef_warmed hwarm hnO hy href1
  have hown2 : (s.setVm T.vm).vm.findClass own = some m.cls := by rw [State.vm_setVm, hwarm.alike.findClass]; exact hown
  have hnO2 : (s.setVm T.vm).methodNamed? y = some obj := by rw [State.methodNamed?_setVm hwarm.alike]; exact hnO
  obtain ⟨g', cC', hfC, hreadyC, hfindC, hnamedC⟩ := Cond.methodRef_named e hown2 href2
  cases (State.methodFound?_of_named hnO2 hy).symm.trans hfC
  have hclsC : cC' = obj.cls := Option.some.inj (hfindC.symm.trans (findClass_of_methodNamed hnO2))
  subst hclsC
  obtain ⟨kO₂, hkO₂, heO₂⟩ := hwarm.alike.2.2 _ _ hkO
  have hmO₂ : T.vm.method? obj = some methO := by rw [hwarm.alike.method?]; exact hmO
  have hfound : lookupSpecial T.vm obj.cls "<init>" methO.desc = .method obj := by
    rw [hwarm.alike.lookupSpecial, hdescO, ← hy1]; exact lookupSpecial_of_named hnO hmO hstO
  have hT : T.setVm T.vm = T := rfl
  have X₁ := X.noted hwarm
  obtain ⟨v, B, X', hpost, hsteps⟩ := hK m meth c ⟨T.setVm T.vm, locs, cells, slots⟩ { g with stack := rest } (.invokespecial index) obj (.ref a :: argsL).toArray X₁ hg hsize hdg hW (X₁.named hnO) (hpre T.vm hwarm)
  refine ⟨v, T.vm, B, hwarm, X', hpost, hcome.trans (Steps.trans ?_ hsteps)⟩
  subst hg
  jvm_step X.here [hexec, hdg, invokespecial.wp_init (e := e) (s := T) (k := kO₂) (meth := methO) (m := obj) (a := a) (args := argsL) (rest := rest) (f := g)
      X.here.top hnamedC hreadyC hkO₂ hmO₂ (by rw [hnameMO]; exact hy1) hstO habO hfound (hlen _ hsigO) hstack]
  intro acts
  rw [doInvoke_state]; exact Steps.refl _
end OwnRef
end Jvm.RoadKit
namespace Jvm.RoadKit
open Sem ClassFile Op Lib Jvm.Stand Jvm.Free Jvm.LawKit
section OwnGo
variable {p : Program} {l : Launch} {e : Env} {R : Room} {s : State} {m : MethodId} {args : Array Value} {below : List Frame} {meth : Method} {c : Code} {T T' : State} {locs : List Loc} {cells slots kc ks : Nat} {Q : Option Value → Heap → List Loc → Prop} {f f' : JFrame} {h : Heap}
/-- from the state T with the top frame f the body comes to its end, and what it leaves meets Q -/
def Go (p : Program) (e : Env) (below : List Frame) (s : State) (kc ks : Nat) (Q : Option Value → Heap → List Loc → Prop) (T : State) (f : JFrame) : Prop :=
  ∃ (s₂ : State) (o : Outcome), Steps p.tables e below (T.setTop f) s₂ ∧ s₂.status = .running ∧ Ended s₂ below o ∧ ∃ v L, o = .returned v ∧ Q v s₂.heap L ∧ FrameEnd s o s₂ L kc ks
theorem Go.step (h : ∀ target, Steps p.tables e below (T'.setTop f') target → Steps p.tables e below (T.setTop f) target) (k : Go p e below s kc ks Q T' f') : Go p e below s kc ks Q T f := by
  obtain ⟨s₂, o, h1, r⟩ := k
  exact ⟨s₂, o, h _ h1, r⟩
theorem Go.trans (h : Steps p.tables e below (T.setTop f) (T'.setTop f')) (k : Go p e below s kc ks Q T' f') : Go p e below s kc ks Q T f := by
  obtain ⟨s₂, o, h1, r⟩ := k
  exact ⟨s₂, o, h.trans h1, r⟩
theorem Go.cast (q : f = f') (k : Go p e below s kc ks Q T f') : Go p e below s kc ks Q T f := q ▸ k
theorem Go.enter {g : JFrame} {s₁ : State} (k : Go p e below s kc ks Q s₁ f) (q : g = f) :
    ∃ s₂ o, Steps p.tables e below (s₁.setTop g) s₂ ∧ s₂.status = .running ∧ Ended s₂ below o ∧ ∃ v L, o = .returned v ∧ Q v s₂.heap L ∧ FrameEnd s o s₂ L kc ks := by
  subst q; exact k
theorem Go.ret (X : Stand p l e R s m args below meth c T locs cells slots) (hx : p.tables.exec = Jvm.exec) {pc : Nat} {Ls : Array Slot} {w : Value} {t : FieldType} {i : Instr} {rest : List Value} (hret : meth.sig.returnType = some t) (hlk : meth.locks = false) (hn : narrow t w = w)
    (hi : (i = .ireturn ∧ (t = .int ∨ t = .boolean ∨ t = .byte ∨ t = .char ∨ t = .short) ∧ ∃ z, w = .int z) ∨ (i = .lreturn ∧ t = .long ∧ ∃ z, w = .long z) ∨ (i = .dreturn ∧ t = .double ∧ ∃ z, w = .double z) ∨ (i = .freturn ∧ t = .float ∧ ∃ z, w = .float z) ∨ (i = .areturn ∧ t.isReference = true ∧ w.isRef = true))
    (hd : decode c.code pc = .ok (i, 1)) (eT : T.heap = h) (hc : cells ≤ kc) (hs : slots ≤ ks) (hQ : Q (some w) h locs) : Go p e below s kc ks Q T (mkF m pc Ls (w :: rest)) := by
  obtain ⟨fs, hr, hrun, hended, hW, hsame⟩ := X.leave (v := some w) (fun q => by rw [hret] at q; cases q) hlk
  exact ⟨_, _, retOut X hx hret hn hi hd hr, hrun, hended, _, _, rfl, (by subst eT; exact hQ), ⟨_, rfl⟩, hW, hsame.mono hc hs⟩
theorem Go.retI (X : Stand p l e R s m args below meth c T locs cells slots) (hx : p.tables.exec = Jvm.exec) {pc : Nat} {Ls : Array Slot} {z : Int32} {rest : List Value} (hret : meth.sig.returnType = some .int) (hlk : meth.locks = false)
    (hd : decode c.code pc = .ok (.ireturn, 1)) (eT : T.heap = h) (hc : cells ≤ kc) (hs : slots ≤ ks) (hQ : Q (some (.int z)) h locs) : Go p e below s kc ks Q T (mkF m pc Ls (.int z :: rest)) :=
  Go.ret X hx hret hlk rfl (Or.inl ⟨rfl, Or.inl rfl, _, rfl⟩) hd eT hc hs hQ
theorem Go.retJ (X : Stand p l e R s m args below meth c T locs cells slots) (hx : p.tables.exec = Jvm.exec) {pc : Nat} {Ls : Array Slot} {z : Int64} {rest : List Value} (hret : meth.sig.returnType = some .long) (hlk : meth.locks = false)
    (hd : decode c.code pc = .ok (.lreturn, 1)) (eT : T.heap = h) (hc : cells ≤ kc) (hs : slots ≤ ks) (hQ : Q (some (.long z)) h locs) : Go p e below s kc ks Q T (mkF m pc Ls (.long z :: rest)) :=
  Go.ret X hx hret hlk rfl (Or.inr (Or.inl ⟨rfl, rfl, _, rfl⟩)) hd eT hc hs hQ
theorem Go.retA (X : Stand p l e R s m args below meth c T locs cells slots) (hx : p.tables.exec = Jvm.exec) {pc : Nat} {Ls : Array Slot} {w : Value} {t : FieldType} {rest : List Value} (hret : meth.sig.returnType = some t) (hlk : meth.locks = false) (ht : t.isReference = true) (hv : w.isRef = true)
    (hd : decode c.code pc = .ok (.areturn, 1)) (eT : T.heap = h) (hc : cells ≤ kc) (hs : slots ≤ ks) (hQ : Q (some w) h locs) : Go p e below s kc ks Q T (mkF m pc Ls (w :: rest)) :=
  Go.ret X hx hret hlk (by cases t <;> first | (cases ht; done) | (cases w <;> first | (cases hv; done) | rfl)) (Or.inr (Or.inr (Or.inr (Or.inr ⟨rfl, ht, hv⟩)))) hd eT hc hs hQ
theorem Go.retN (X : Stand p l e R s m args below meth c T locs cells slots) (hx : p.tables.exec = Jvm.exec) {pc : Nat} {Ls : Array Slot} {z : Int32} {t : FieldType} {rest : List Value} (hret : meth.sig.returnType = some t) (hlk : meth.locks = false) (ht : t = .boolean ∨ t = .byte ∨ t = .char ∨ t = .short)
    (hd : decode c.code pc = .ok (.ireturn, 1)) (eT : T.heap = h) (hc : cells ≤ kc) (hs : slots ≤ ks) (hQ : Q (some (.int (nar t z))) h locs) : Go p e below s kc ks Q T (mkF m pc Ls (.int z :: rest)) := by
  obtain ⟨fs, hr, hrun, hended, hW, hsame⟩ := X.leave (v := some (.int (nar t z))) (fun q => by rw [hret] at q; cases q) hlk
  exact ⟨_, _, Jvm.RoadKit.retN X hx hret ht hd hr, hrun, hended, _, _, rfl, (by subst eT; exact hQ), ⟨_, rfl⟩, hW, hsame.mono hc hs⟩
theorem Go.ret0 (X : Stand p l e R s m args below meth c T locs cells slots) (hx : p.tables.exec = Jvm.exec) {pc : Nat} {Ls : Array Slot} (hret : meth.sig.returnType = none) (hlk : meth.locks = false)
    (hd : decode c.code pc = .ok (.return_, 1)) (eT : T.heap = h) (hc : cells ≤ kc) (hs : slots ≤ ks) (hQ : Q none h locs) : Go p e below s kc ks Q T (mkF m pc Ls []) := by
  obtain ⟨fs, hr, hrun, hended, hW, hsame⟩ := X.leave (v := none) (fun _ => rfl) hlk
  exact ⟨_, _, X.returnOut hx hret hd hr, hrun, hended, _, _, rfl, (by subst eT; exact hQ), ⟨_, rfl⟩, hW, hsame.mono hc hs⟩
theorem own_selp {args' : Array Value} {y : MethodName} {n : Nat} (wi : (Cond.instantiable y.cls n).before args' s = true) (hpriv : s.PrivateAt y) (hinst : (Cond.instanceMethod y).before args' s = true) (hy : y.cls ≠ "java/lang/invoke/MethodHandle" ∧ y.cls ≠ "java/lang/invoke/VarHandle") : (Cond.selects y.cls y y).before args' s = true := by
  obtain ⟨c, k, h1, h2, -, h4, -⟩ := Cond.instantiable_spec wi
  exact selects_self_of_private h1 h2 (by simp only [Bool.or_eq_false_iff] at h4; exact h4.1) hpriv hinst hy
theorem own_mvMN {Z : State} {a0 args' : Array Value} {own host : String} {y : MethodName} {index : Nat} (hZ : Z.Warmed39 s.vm) (w : (Cond.methodLinkNest own index y host).before a0 Z = true) : (Cond.methodLinkNest own index y host).before args' s = true := (Cond.methodLinkNest_wide hZ w :)
theorem own_nar01 {z : Int32} (h : z = 0 ∨ z = 1) : nar .boolean z = z := by rcases h with rfl | rfl <;> decide
end OwnGo
end Jvm.RoadKit
namespace Jvm.Pilot.@@N@@
open Jvm Jvm.ClassFile Sem Op Lib Jvm.Free Jvm.Stand Jvm.LawKit Jvm.RoadKit Bundle Jvm.Pilot.@@N@@.Jvm.D
theorem own_w {a0 : Array Value} {Z : State} (hw : ∀ d ∈ tables_1, d.before a0 Z = true) (i : Nat) {d : Jvm.Cond} (q : tables_1[i]? = some d) : d.before a0 Z = true := hw d (List.mem_of_getElem? q)
def own_cmp (x y : Int32) : Int32 := if x < y then -1 else if x = y then 0 else 1
theorem own_cmp0 {x y : Int32} (h : own_cmp x y = 0) : x = y := by
  unfold own_cmp at h; by_cases q : x < y
  · rw [if_pos q] at h; exact absurd h (by decide)
  · rw [if_neg q] at h; by_cases q2 : x = y
    · exact q2
    · rw [if_neg q2] at h; exact absurd h (by decide)
theorem own_cmpL {x y : Int32} (h : own_cmp x y < 0) : x < y := by
  unfold own_cmp at h; by_cases q : x < y
  · exact q
  · rw [if_neg q] at h; by_cases q2 : x = y
    · rw [if_pos q2] at h; exact absurd h (by decide)
    · rw [if_neg q2] at h; exact absurd h (by decide)
theorem own_tri (x y : Int32) : x = y ∨ x < y ∨ y < x := by simp only [Int32.lt_iff_toInt_lt, ← Int32.toInt_inj]; omega
theorem own_cmpG {x y : Int32} (h1 : ¬ own_cmp x y = 0) (h2 : ¬ own_cmp x y < 0) : y < x := by
  rcases own_tri x y with q | q | q
  · exact absurd (by unfold own_cmp; rw [if_neg (by rw [q]; simp only [Int32.lt_iff_toInt_lt]; omega), if_pos q]) h1
  · exact absurd (by unfold own_cmp; rw [if_pos q]; decide) h2
  · exact q
theorem own_cmpE (x : Int32) : own_cmp x x = 0 := by unfold own_cmp; rw [if_neg (by simp only [Int32.lt_iff_toInt_lt]; omega), if_pos rfl]
theorem own_ltne {x y : Int32} (q : x < y) : ¬ x = y := by intro e; rw [e] at q; simp only [Int32.lt_iff_toInt_lt] at q; omega
theorem own_gtne {x y : Int32} (q : y < x) : ¬ x = y := by intro e; rw [e] at q; simp only [Int32.lt_iff_toInt_lt] at q; omega
theorem own_gtnl {x y : Int32} (q : y < x) : ¬ x < y := by simp only [Int32.lt_iff_toInt_lt] at q ⊢; omega
def own_val : List (Addr × Addr × Int32) → Value
  | [] => .null
  | z :: _ => .ref z.1
def own_HT (Z : State) (h : Heap) (kv : Int32) : List (Addr × Addr × Int32) → Prop
  | [] => True
  | (ad, kx, ky) :: r => Exa Z h ad "gatherwick/maps/RedBlackTree$Node" ∧ Fld Z h ad "gatherwick/maps/RedBlackTree$Node" "key" "Ljava/lang/Object;" (.ref kx) ∧ Exa Z h kx "java/lang/Integer" ∧ Fld Z h kx "java/lang/Integer" "value" "I" (.int ky) ∧ (kv < ky → Fld Z h ad "gatherwick/maps/RedBlackTree$Node" "left" "Lgatherwick/maps/RedBlackTree$Node;" (own_val r)) ∧ (ky < kv → Fld Z h ad "gatherwick/maps/RedBlackTree$Node" "right" "Lgatherwick/maps/RedBlackTree$Node;" (own_val r)) ∧ own_HT Z h kv r
theorem own_HT.ext {Z : State} {h h' : Heap} {kv : Int32} {tr : List (Addr × Addr × Int32)} (F : own_HT Z h kv tr) (E : Ext h h') : own_HT Z h' kv tr := by
  induction tr with
  | nil => trivial
  | cons z r i1 => obtain ⟨ad, kx, ky⟩ := z; obtain ⟨q1, q2, q3, q4, q5, q6, q7⟩ := F; exact ⟨q1.ext E, q2.ext E, q3.ext E, q4.ext E, fun q => (q5 q).ext E, fun q => (q6 q).ext E, i1 q7⟩
def own_sn (kv : Int32) : List (Addr × Addr × Int32) → Value
  | [] => .null
  | (ad, _, ky) :: r => if kv = ky then .ref ad else own_sn kv r
def own_sp (kv : Int32) : List (Addr × Addr × Int32) → Value → Value
  | [], pv => pv
  | (ad, _, ky) :: r, _ => if kv = ky then .null else own_sp kv r (.ref ad)
def own_sl (kv : Int32) : List (Addr × Addr × Int32) → Int32 → Int32
  | [], b => b
  | (_, _, ky) :: r, _ => if kv = ky then 0 else if kv < ky then own_sl kv r 1 else own_sl kv r 0
theorem own_sn_eq {kv ky : Int32} {ad kx : Addr} {rr : List (Addr × Addr × Int32)} (q : kv = ky) : own_sn kv ((ad, kx, ky) :: rr) = .ref ad := by simp only [own_sn, if_pos q]
theorem own_sn_lt {kv ky : Int32} {ad kx : Addr} {rr : List (Addr × Addr × Int32)} (q : kv < ky) : own_sn kv ((ad, kx, ky) :: rr) = own_sn kv rr := by simp only [own_sn, if_neg (own_ltne q)]
theorem own_sn_gt {kv ky : Int32} {ad kx : Addr} {rr : List (Addr × Addr × Int32)} (q : ky < kv) : own_sn kv ((ad, kx, ky) :: rr) = own_sn kv rr := by simp only [own_sn, if_neg (own_gtne q)]
theorem own_sp_eq {kv ky : Int32} {ad kx : Addr} {rr : List (Addr × Addr × Int32)} {pv : Value} (q : kv = ky) : own_sp kv ((ad, kx, ky) :: rr) pv = .null := by simp only [own_sp, if_pos q]
theorem own_sp_lt {kv ky : Int32} {ad kx : Addr} {rr : List (Addr × Addr × Int32)} {pv : Value} (q : kv < ky) : own_sp kv ((ad, kx, ky) :: rr) pv = own_sp kv rr (.ref ad) := by simp only [own_sp, if_neg (own_ltne q)]
theorem own_sp_gt {kv ky : Int32} {ad kx : Addr} {rr : List (Addr × Addr × Int32)} {pv : Value} (q : ky < kv) : own_sp kv ((ad, kx, ky) :: rr) pv = own_sp kv rr (.ref ad) := by simp only [own_sp, if_neg (own_gtne q)]
theorem own_sl_eq {kv ky : Int32} {ad kx : Addr} {rr : List (Addr × Addr × Int32)} {pv : Int32} (q : kv = ky) : own_sl kv ((ad, kx, ky) :: rr) pv = 0 := by simp only [own_sl, if_pos q]
theorem own_sl_lt {kv ky : Int32} {ad kx : Addr} {rr : List (Addr × Addr × Int32)} {pv : Int32} (q : kv < ky) : own_sl kv ((ad, kx, ky) :: rr) pv = own_sl kv rr 1 := by simp only [own_sl, if_neg (own_ltne q), if_pos q]
theorem own_sl_gt {kv ky : Int32} {ad kx : Addr} {rr : List (Addr × Addr × Int32)} {pv : Int32} (q : ky < kv) : own_sl kv ((ad, kx, ky) :: rr) pv = own_sl kv rr 0 := by simp only [own_sl, if_neg (own_gtne q), if_neg (own_gtnl q)]
theorem own_s128 (x : Int32) : x + 128 - 128 = x := by simp only [← Int32.toInt_inj]; have := c_iadd x 128; have := c_isub (x + 128) 128; have := rng32 x; have := rng32 (x + 128 - 128); have : (128 : Int32).toInt = 128 := rfl; omega
theorem d30_0 : decode jdk_18_method_1_code 0 = .ok (.aload_n 0, 1) := by decide +kernel
theorem d30_1 : decode jdk_18_method_1_code 1 = .ok (.invokespecial 1, 3) := by decide +kernel
theorem d30_4 : decode jdk_18_method_1_code 4 = .ok (.return_, 1) := by decide +kernel
theorem pd___V : parseMethodDescriptor "()V" = some ⟨[], none⟩ := by decide +kernel
theorem pn_java_lang_Number : plainName "java/lang/Number" = true := by first | (simp [plainName, overriddenIn]; done) | decide +kernel
theorem ef_rmNu (m : MethodId) (ao : Addr) : entryFrame m #[(.ref ao)] 1 = mkF m 0 #[.val (.ref ao)] [] := by first | (simp [entryFrame, mkF, argsToLocals, Value.category]; done) | rfl
def Q_rmNu (Z : State) (ao : Addr) (h0 : Heap) (n0 : Nat) (v : Option Value) (h : Heap) (L : List Loc) : Prop := (v = none) ∧ (Fr n0 L) ∧ (h = h0)
theorem rmNu (l : Launch) (Z : State) (a0 : Array Value) (hw : ∀ d ∈ tables_1, d.before a0 Z = true) (ws : List Jvm.Cond) (ao : Addr) (h0 : Heap) (n0 : Nat) (Z0 : n0 ≤ h0.size) :
    MetFree l (⟨"java/lang/Number", "<init>", "()V"⟩ : MethodName) (head1 (Jvm.Cond.code (⟨"java/lang/Number", "<init>", "()V"⟩ : MethodName) jdk_18_method_1_code 1 none :: ws) ({ frames := 1, cells := 0, slots := 0, locals := 12 } : Room)) (fun aA U => aA = #[(.ref ao)] ∧ Z.Warmed39 U.vm ∧ U.heap = h0) (fun _ _ _ _ _ => True) (fun _ U o U' => ∃ v L, o = .returned v ∧ Q_rmNu Z ao h0 n0 v U'.heap L ∧ FrameEnd U o U' L ({ frames := 1, cells := 0, slots := 0, locals := 12 } : Room).cells ({ frames := 1, cells := 0, slots := 0, locals := 12 } : Room).slots) := by
  refine MetFree.of_bodySF (plainFor_of_name pn_java_lang_Number) hisR ?_
  intro p e s m args below meth c s₁ Bd hml0 hP hK
  obtain ⟨rfl, hZ, hh⟩ := hP
  have hx := Bd.exec
  have hby := Bd.bytes
  have hml : c.maxLocals = 1 := hml0
  have hown : s.vm.findClass "java/lang/Number" = some m.cls := findClass_of_methodNamed Bd.named
  have hnm := (name_of_methodNamed Bd.named Bd.method).1
  have hret := Bd.returns
  have hlk : meth.locks = false := BodyLoose.notSynchronized Bd
  have X0 : Stand p l e ({ frames := 1, cells := 0, slots := 0, locals := 12 } : Room) s m #[(.ref ao)] below meth c s₁ [] 0 0 := Stand.of_body Bd
  have e0 : s₁.heap = h0 := by rw [← hh, Bd.state]; rfl
  have N0 := Fr.nil n0
  suffices hgo : Go p e below s ({ frames := 1, cells := 0, slots := 0, locals := 12 } : Room).cells ({ frames := 1, cells := 0, slots := 0, locals := 12 } : Room).slots (Q_rmNu Z ao h0 n0) s₁ (mkF m 0 #[.val (.ref ao)] []) from hgo.enter (ef_rmNu m ao)
  refine Go.step (fun _ k => XS.aloadN X0.here hx rfl (hb hby d30_0) rfl rfl k) ?_
  obtain ⟨T1, X1, e1, st1⟩ := initO X0 hx hZ hown (own_w hw 174 rfl) (own_w hw 12 rfl) (own_w hw 13 rfl) e0 (g := (mkF m 1 #[.val (.ref ao)] [(.ref ao)])) rfl (by rw [hml]; rfl) rfl (hb hby d30_1) (by decide) (W := 0) (by show 2 * 0 + _ ≤ _; exact Nat.le_of_eq rfl) (by decide)
  refine Go.step st1 ?_
  show Go _ _ _ _ _ _ _ T1 (mkF m 4 #[.val (.ref ao)] [])
  exact Go.ret0 X1 hx hret hlk (hb hby d30_4) e1 (by decide) (by decide) ⟨rfl, N0, rfl⟩
theorem d29_0 : decode jdk_33_method_23_code 0 = .ok (.aload_n 0, 1) := by decide +kernel
theorem d29_1 : decode jdk_33_method_23_code 1 = .ok (.invokespecial 202, 3) := by decide +kernel
theorem d29_4 : decode jdk_33_method_23_code 4 = .ok (.aload_n 0, 1) := by decide +kernel
theorem d29_5 : decode jdk_33_method_23_code 5 = .ok (.iload_n 1, 1) := by decide +kernel
theorem d29_6 : decode jdk_33_method_23_code 6 = .ok (.putfield 205, 3) := by decide +kernel
theorem d29_9 : decode jdk_33_method_23_code 9 = .ok (.return_, 1) := by decide +kernel
theorem pn_java_lang_Integer : plainName "java/lang/Integer" = true := by first | (simp [plainName, overriddenIn]; done) | decide +kernel
theorem ef_rmIi (m : MethodId) (ao : Addr) (ib : Int32) : entryFrame m #[(.ref ao), (.int ib)] 2 = mkF m 0 #[.val (.ref ao), .val (.int ib)] [] := by first | (simp [entryFrame, mkF, argsToLocals, Value.category]; done) | rfl
def Q_rmIi (Z : State) (ao : Addr) (ib : Int32) (h0 : Heap) (n0 : Nat) (v : Option Value) (h : Heap) (L : List Loc) : Prop := (v = none) ∧ (Fr n0 L) ∧ (Keep h0 h [ao]) ∧ (Fld Z h ao "java/lang/Integer" "value" "I" (.int ib))
theorem rmIi (l : Launch) (Z : State) (a0 : Array Value) (hw : ∀ d ∈ tables_1, d.before a0 Z = true) (ws : List Jvm.Cond) (ao : Addr) (ib : Int32) (h0 : Heap) (n0 : Nat) (Z0 : n0 ≤ h0.size) (E0 : Exa Z h0 ao "java/lang/Integer") (g0 : n0 ≤ ao) (F0 : Fld Z h0 ao "java/lang/Integer" "value" "I" (.int (0 : Int32))) :
    MetFree l (⟨"java/lang/Integer", "<init>", "(I)V"⟩ : MethodName) (head1 (Jvm.Cond.code (⟨"java/lang/Integer", "<init>", "(I)V"⟩ : MethodName) jdk_33_method_23_code 2 none :: ws) ({ frames := 2, cells := 0, slots := 0, locals := 24 } : Room)) (fun aA U => aA = #[(.ref ao), (.int ib)] ∧ Z.Warmed39 U.vm ∧ U.heap = h0) (fun _ _ _ _ _ => True) (fun _ U o U' => ∃ v L, o = .returned v ∧ Q_rmIi Z ao ib h0 n0 v U'.heap L ∧ FrameEnd U o U' L ({ frames := 2, cells := 0, slots := 0, locals := 24 } : Room).cells ({ frames := 2, cells := 0, slots := 0, locals := 24 } : Room).slots) := by
  refine MetFree.of_bodySF (plainFor_of_name pn_java_lang_Integer) hisR ?_
  intro p e s m args below meth c s₁ Bd hml0 hP hK
  obtain ⟨rfl, hZ, hh⟩ := hP
  have hx := Bd.exec
  have hby := Bd.bytes
  have hml : c.maxLocals = 2 := hml0
  have hown : s.vm.findClass "java/lang/Integer" = some m.cls := findClass_of_methodNamed Bd.named
  have hnm := (name_of_methodNamed Bd.named Bd.method).1
  have hret := Bd.returns
  have hlk : meth.locks = false := BodyLoose.notSynchronized Bd
  have X0 : Stand p l e ({ frames := 2, cells := 0, slots := 0, locals := 24 } : Room) s m #[(.ref ao), (.int ib)] below meth c s₁ [] 0 0 := Stand.of_body Bd
  have e0 : s₁.heap = h0 := by rw [← hh, Bd.state]; rfl
  have N0 := Fr.nil n0
  suffices hgo : Go p e below s ({ frames := 2, cells := 0, slots := 0, locals := 24 } : Room).cells ({ frames := 2, cells := 0, slots := 0, locals := 24 } : Room).slots (Q_rmIi Z ao ib h0 n0) s₁ (mkF m 0 #[.val (.ref ao), .val (.int ib)] []) from hgo.enter (ef_rmIi m ao ib)
  refine Go.step (fun _ k => XS.aloadN X0.here hx rfl (hb hby d29_0) rfl rfl k) ?_
  obtain ⟨_, _, ⟨T2, L2, k2, n2⟩, -, X2, ⟨Lc2, hQ2, l2, y2, z2⟩, st2⟩ := X0.specialBack hx (y := (⟨"java/lang/Number", "<init>", "()V"⟩ : MethodName)) rfl hown (mvT hZ (own_w hw 168 rfl)) (mvT hZ (own_w hw 169 rfl)) (mvT hZ (own_w hw 173 rfl)) (by decide) (backOf (W := 0) (rmNu l Z a0 hw [] ao h0 n0 Z0 ) hZ (own_w hw 173 rfl) (own_w hw 172 rfl) (by decide) (by decide)) (g := (mkF m 1 #[.val (.ref ao), .val (.int ib)] [(.ref ao)])) rfl (by rw [hml]; rfl) (Steps.refl _) (a := ao) (argsL := []) (rest := []) (lenOf pd___V rfl) rfl (by show 2 * 0 + _ ≤ _; exact Nat.le_of_eq rfl) (hb hby d29_1) (fun _ _ => ⟨rfl, e0, (by decide : 0 + 0 ≤ _), (by decide : 0 + 0 ≤ _)⟩)
  dsimp only [Pt.U, Pt.locs, Pt.cells, Pt.slots] at X2 l2 y2 z2 st2 hQ2
  subst l2 y2 z2
  obtain ⟨h2, e2⟩ : ∃ h, T2.heap = h := ⟨_, rfl⟩
  rw [e2] at hQ2
  obtain ⟨rfl, Nq2, hs2⟩ := hQ2
  have N2 := Fr.app N0 Nq2
  rw [hs2] at e2
  refine Go.trans st2 ?_
  show Go _ _ _ _ _ _ _ T2 (mkF m 4 #[.val (.ref ao), .val (.int ib)] [])
  refine Go.step (fun _ k => XS.aloadN X2.here hx rfl (hb hby d29_4) rfl rfl k) ?_
  refine Go.step (fun _ k => XS.iloadN X2.here hx rfl (hb hby d29_5) rfl k) ?_
  obtain ⟨T3, h3, X3, e3, W3, st3⟩ := putF X2 hx hZ hown (host := "") (Or.inl (own_w hw 79 rfl)) Via.refl e2 F0 E0 (Or.inr ⟨(own_w hw 80 rfl), rfl, hnm⟩) (own_w hw 164 rfl) (ty := .int) (by decide) rfl rfl (g := (mkF m 6 #[.val (.ref ao), .val (.int ib)] [(.int ib), (.ref ao)])) rfl rfl (hb hby d29_6)
  refine Go.step st3 ?_
  have Fw3 := F0.same W3
  have N3 := Fr.snoc X3 N2 g0
  have Z3 : n0 ≤ h3.size := Nat.le_trans Z0 (Keep.of_wr W3).1
  have KK3 := (Keep.refl h0 [ao]).wr W3 (Or.inl (List.mem_of_getElem? (i := 0) rfl))
  show Go _ _ _ _ _ _ _ T3 (mkF m 9 #[.val (.ref ao), .val (.int ib)] [])
  exact Go.ret0 X3 hx hret hlk (hb hby d29_9) e3 (by decide) (by decide) ⟨rfl, N3, KK3, Fw3⟩
theorem d6_0 : decode jdk_33_method_22_code 0 = .ok (.iload_n 0, 1) := by decide +kernel
theorem d6_1 : decode jdk_33_method_22_code 1 = .ok (.bipush (-128), 2) := by decide +kernel
theorem d6_3 : decode jdk_33_method_22_code 3 = .ok (.if_icmp .lt 20, 3) := by decide +kernel
theorem d6_6 : decode jdk_33_method_22_code 6 = .ok (.iload_n 0, 1) := by decide +kernel
theorem d6_7 : decode jdk_33_method_22_code 7 = .ok (.getstatic 191, 3) := by decide +kernel
theorem d6_10 : decode jdk_33_method_22_code 10 = .ok (.if_icmp .gt 13, 3) := by decide +kernel
theorem d6_13 : decode jdk_33_method_22_code 13 = .ok (.getstatic 195, 3) := by decide +kernel
theorem d6_16 : decode jdk_33_method_22_code 16 = .ok (.iload_n 0, 1) := by decide +kernel
theorem d6_17 : decode jdk_33_method_22_code 17 = .ok (.sipush 128, 3) := by decide +kernel
theorem d6_20 : decode jdk_33_method_22_code 20 = .ok (.iadd, 1) := by decide +kernel
theorem d6_21 : decode jdk_33_method_22_code 21 = .ok (.aaload, 1) := by decide +kernel
theorem d6_22 : decode jdk_33_method_22_code 22 = .ok (.areturn, 1) := by decide +kernel
theorem d6_23 : decode jdk_33_method_22_code 23 = .ok (.new 1, 3) := by decide +kernel
theorem d6_26 : decode jdk_33_method_22_code 26 = .ok (.dup, 1) := by decide +kernel
theorem d6_27 : decode jdk_33_method_22_code 27 = .ok (.iload_n 0, 1) := by decide +kernel
theorem d6_28 : decode jdk_33_method_22_code 28 = .ok (.invokespecial 199, 3) := by decide +kernel
theorem d6_31 : decode jdk_33_method_22_code 31 = .ok (.areturn, 1) := by decide +kernel
theorem pd__I_V : parseMethodDescriptor "(I)V" = some ⟨[.int], none⟩ := by decide +kernel
theorem ef_rmVo (m : MethodId) (ib : Int32) : entryFrame m #[(.int ib)] 1 = mkF m 0 #[.val (.int ib)] [] := by first | (simp [entryFrame, mkF, argsToLocals, Value.category]; done) | rfl
theorem own_ar3 (ib : Int32) (hh0 : ¬ (ib < (-128 : Int32))) (hh1 : ¬ ((127 : Int32) < ib)) : ¬ ((ib + (128 : Int32)) < (0 : Int32)) := by have := rng32 ib; have : (128 : Int32).toInt = 128 := rfl; have := rng32 (ib + (128 : Int32)); have := c_iadd ib (128 : Int32); have : (0 : Int32).toInt = 0 := rfl; have : (-128 : Int32).toInt = -128 := rfl; have : (127 : Int32).toInt = 127 := rfl; have : (256 : Int32).toInt = 256 := rfl; simp only [Int32.lt_iff_toInt_lt, Int32.le_iff_toInt_le, ← Int32.toInt_inj, Int64.lt_iff_toInt_lt, Int64.le_iff_toInt_le, ← Int64.toInt_inj] at hh0 hh1 ⊢; omega
theorem own_ar4 (ib : Int32) (hh0 : ¬ (ib < (-128 : Int32))) (hh1 : ¬ ((127 : Int32) < ib)) : (ib + (128 : Int32)) < (256 : Int32) := by have := rng32 ib; have : (128 : Int32).toInt = 128 := rfl; have := rng32 (ib + (128 : Int32)); have := c_iadd ib (128 : Int32); have : (0 : Int32).toInt = 0 := rfl; have : (-128 : Int32).toInt = -128 := rfl; have : (127 : Int32).toInt = 127 := rfl; have : (256 : Int32).toInt = 256 := rfl; simp only [Int32.lt_iff_toInt_lt, Int32.le_iff_toInt_le, ← Int32.toInt_inj, Int64.lt_iff_toInt_lt, Int64.le_iff_toInt_le, ← Int64.toInt_inj] at hh0 hh1 ⊢; omega
def Q_rmVo (Z : State) (ib : Int32) (ac : Addr) (cc : Cell) (h0 : Heap) (n0 : Nat) (v : Option Value) (h : Heap) (L : List Loc) : Prop := ∃ ax : Addr, (v = some (.ref ax)) ∧ (Fr n0 L) ∧ (Keep h0 h []) ∧ (Exa Z h ax "java/lang/Integer") ∧ (Fld Z h ax "java/lang/Integer" "value" "I" (.int ib))
theorem rmVo (l : Launch) (Z : State) (a0 : Array Value) (hw : ∀ d ∈ tables_1, d.before a0 Z = true) (ws : List Jvm.Cond) (ib : Int32) (ac : Addr) (cc : Cell) (h0 : Heap) (n0 : Nat) (Z0 : n0 ≤ h0.size) (O0 : Old Z n0 h0) (SH : Sta Z Z.heap "java/lang/Integer$IntegerCache" "high" "I" (.int (127 : Int32))) (SC : Sta Z Z.heap "java/lang/Integer$IntegerCache" "cache" "[Ljava/lang/Integer;" (.ref ac)) (BX : Bxs Z ac cc "java/lang/Integer" "I" (256 : Int32) (fun j => .int (j - 128))) :
    MetFree l (⟨"java/lang/Integer", "valueOf", "(I)Ljava/lang/Integer;"⟩ : MethodName) (head1 (Jvm.Cond.code (⟨"java/lang/Integer", "valueOf", "(I)Ljava/lang/Integer;"⟩ : MethodName) jdk_33_method_22_code 1 (some (.object "java/lang/Integer")) :: ws) ({ frames := 3, cells := 1, slots := 1, locals := 38 } : Room)) (fun aA U => aA = #[(.int ib)] ∧ Z.Warmed39 U.vm ∧ U.heap = h0) (fun _ _ _ _ _ => True) (fun _ U o U' => ∃ v L, o = .returned v ∧ Q_rmVo Z ib ac cc h0 n0 v U'.heap L ∧ FrameEnd U o U' L ({ frames := 3, cells := 1, slots := 1, locals := 38 } : Room).cells ({ frames := 3, cells := 1, slots := 1, locals := 38 } : Room).slots) := by
  refine MetFree.of_bodySF (plainFor_of_name pn_java_lang_Integer) hisR ?_
  intro p e s m args below meth c s₁ Bd hml0 hP hK
  obtain ⟨rfl, hZ, hh⟩ := hP
  have hx := Bd.exec
  have hby := Bd.bytes
  have hml : c.maxLocals = 1 := hml0
  have hown : s.vm.findClass "java/lang/Integer" = some m.cls := findClass_of_methodNamed Bd.named
  have hnm := (name_of_methodNamed Bd.named Bd.method).1
  have hret := Bd.returns
  have hlk : meth.locks = false := BodyLoose.notSynchronized Bd
  have X0 : Stand p l e ({ frames := 3, cells := 1, slots := 1, locals := 38 } : Room) s m #[(.int ib)] below meth c s₁ [] 0 0 := Stand.of_body Bd
  have e0 : s₁.heap = h0 := by rw [← hh, Bd.state]; rfl
  have N0 := Fr.nil n0
  suffices hgo : Go p e below s ({ frames := 3, cells := 1, slots := 1, locals := 38 } : Room).cells ({ frames := 3, cells := 1, slots := 1, locals := 38 } : Room).slots (Q_rmVo Z ib ac cc h0 n0) s₁ (mkF m 0 #[.val (.int ib)] []) from hgo.enter (ef_rmVo m ib)
  refine Go.step (fun _ k => XS.iloadN X0.here hx rfl (hb hby d6_0) rfl k) ?_
  refine Go.step (fun _ k => XS.bipush X0.here hx rfl (hb hby d6_1) k) ?_
  by_cases hc3_4 : ib < (-128 : Int32)
  · refine Go.step (fun _ k => XS.icmpYes X0.here hx rfl (pc0 := 3) (pc' := 23) rfl (hb hby d6_3) rfl (tlt hc3_4).1 (by decide) (by decide) k) ?_
    show Go _ _ _ _ _ _ _ s₁ (mkF m 23 #[.val (.int ib)] [])
    obtain ⟨T5, h5, X5, e5, E5, A5, D5, -, st5⟩ := newO X0 hx hZ hown (own_w hw 72 rfl) (own_w hw 164 rfl) (own_w hw 30 rfl) e0 (g := (mkF m 23 #[.val (.int ib)] [])) rfl (hb hby d6_23) (by decide) (by decide)
    obtain ⟨b5, g5⟩ : ∃ z, z = h0.size := ⟨_, rfl⟩
    rw [← g5] at A5 D5 st5
    refine Go.step st5 ?_
    have g_b5 : n0 ≤ b5 := Nat.le_trans Z0 (Nat.le_of_eq g5.symm)
    have sz_b5 : h0.size ≤ b5 := Nat.le_trans (Keep.refl h0 []).1 (Nat.le_of_eq g5.symm)
    have Z5 : n0 ≤ h5.size := Nat.le_trans Z0 E5.1
    have KK5 := (Keep.refl h0 []).ext E5
    have Fvalue_5 : Fld Z h5 b5 "java/lang/Integer" "value" "I" (.int (0 : Int32)) := D5 (Or.inr (own_w hw 80 rfl)) (ty := .int) (by decide)
    show Go _ _ _ _ _ _ _ T5 (mkF m 26 #[.val (.int ib)] [(.ref b5)])
    refine Go.step (fun _ k => XS.dup X5.here hx rfl (hb hby d6_26) rfl rfl k) ?_
    refine Go.step (fun _ k => XS.iloadN X5.here hx rfl (hb hby d6_27) rfl k) ?_
    obtain ⟨_, _, ⟨T6, L6, k6, n6⟩, -, X6, ⟨Lc6, hQ6, l6, y6, z6⟩, st6⟩ := X5.specialBack hx (y := (⟨"java/lang/Integer", "<init>", "(I)V"⟩ : MethodName)) rfl hown (mvT hZ (own_w hw 165 rfl)) (mvT hZ (own_w hw 166 rfl)) (mvT hZ (own_w hw 167 rfl)) (by decide) (backOf (W := 1) (rmIi l Z a0 hw [] b5 ib h5 n0 Z5 A5 g_b5 Fvalue_5) hZ (own_w hw 167 rfl) (own_w hw 30 rfl) (by decide) (by decide)) (g := (mkF m 28 #[.val (.int ib)] [(.int ib), (.ref b5), (.ref b5)])) rfl (by rw [hml]; rfl) (Steps.refl _) (a := b5) (argsL := [(.int ib)]) (rest := [(.ref b5)]) (lenOf pd__I_V rfl) rfl (by show 2 * 0 + _ ≤ _; exact Nat.le_of_eq rfl) (hb hby d6_28) (fun _ _ => ⟨rfl, e5, (by decide : 1 + 0 ≤ _), (by decide : 1 + 0 ≤ _)⟩)
    dsimp only [Pt.U, Pt.locs, Pt.cells, Pt.slots] at X6 l6 y6 z6 st6 hQ6
    subst l6 y6 z6
    obtain ⟨h6, e6⟩ : ∃ h, T6.heap = h := ⟨_, rfl⟩
    rw [e6] at hQ6
    obtain ⟨rfl, Nq6, Kq6, F1_6⟩ := hQ6
    have N6 := Fr.app N0 Nq6
    have Z6 : n0 ≤ h6.size := Nat.le_trans Z5 Kq6.1
    have KK6 := KK5.trans Kq6 (allS (Or.inr sz_b5) all0)
    refine Go.trans st6 ?_
    show Go _ _ _ _ _ _ _ T6 (mkF m 31 #[.val (.int ib)] [(.ref b5)])
    have f7 := (A5.keep Kq6)
    exact Go.retA X6 hx hret hlk rfl rfl (hb hby d6_31) e6 (by decide) (by decide) ⟨b5, rfl, N6, KK6, f7, F1_6⟩
  · refine Go.step (fun _ k => XS.icmpNo X0.here hx rfl (hb hby d6_3) rfl (flt hc3_4).1 k) ?_
    show Go _ _ _ _ _ _ _ s₁ (mkF m 6 #[.val (.int ib)] [])
    refine Go.step (fun _ k => XS.iloadN X0.here hx rfl (hb hby d6_6) rfl k) ?_
    obtain ⟨T8, X8, e8, st8⟩ := getS2 X0 hx hZ hown (host := "") (Or.inl (own_w hw 32 rfl)) Via.refl e0 (SH.ext O0.2) (g := (mkF m 7 #[.val (.int ib)] [(.int ib)])) rfl (hb hby d6_7)
    refine Go.step st8 ?_
    show Go _ _ _ _ _ _ _ T8 (mkF m 10 #[.val (.int ib)] [(.int (127 : Int32)), (.int ib)])
    by_cases hc10_9 : (127 : Int32) < ib
    · refine Go.step (fun _ k => XS.icmpYes X8.here hx rfl (pc0 := 10) (pc' := 23) rfl (hb hby d6_10) rfl (tlt hc10_9).2.2.1 (by decide) (by decide) k) ?_
      show Go _ _ _ _ _ _ _ T8 (mkF m 23 #[.val (.int ib)] [])
      obtain ⟨T10, h10, X10, e10, E10, A10, D10, -, st10⟩ := newO X8 hx hZ hown (own_w hw 72 rfl) (own_w hw 164 rfl) (own_w hw 30 rfl) e8 (g := (mkF m 23 #[.val (.int ib)] [])) rfl (hb hby d6_23) (by decide) (by decide)
      obtain ⟨b10, g10⟩ : ∃ z, z = h0.size := ⟨_, rfl⟩
      rw [← g10] at A10 D10 st10
      refine Go.step st10 ?_
      have g_b10 : n0 ≤ b10 := Nat.le_trans Z0 (Nat.le_of_eq g10.symm)
      have sz_b10 : h0.size ≤ b10 := Nat.le_trans (Keep.refl h0 []).1 (Nat.le_of_eq g10.symm)
      have Z10 : n0 ≤ h10.size := Nat.le_trans Z0 E10.1
      have KK10 := (Keep.refl h0 []).ext E10
      have Fvalue_10 : Fld Z h10 b10 "java/lang/Integer" "value" "I" (.int (0 : Int32)) := D10 (Or.inr (own_w hw 80 rfl)) (ty := .int) (by decide)
      show Go _ _ _ _ _ _ _ T10 (mkF m 26 #[.val (.int ib)] [(.ref b10)])
      refine Go.step (fun _ k => XS.dup X10.here hx rfl (hb hby d6_26) rfl rfl k) ?_
      refine Go.step (fun _ k => XS.iloadN X10.here hx rfl (hb hby d6_27) rfl k) ?_
      obtain ⟨_, _, ⟨T11, L11, k11, n11⟩, -, X11, ⟨Lc11, hQ11, l11, y11, z11⟩, st11⟩ := X10.specialBack hx (y := (⟨"java/lang/Integer", "<init>", "(I)V"⟩ : MethodName)) rfl hown (mvT hZ (own_w hw 165 rfl)) (mvT hZ (own_w hw 166 rfl)) (mvT hZ (own_w hw 167 rfl)) (by decide) (backOf (W := 1) (rmIi l Z a0 hw [] b10 ib h10 n0 Z10 A10 g_b10 Fvalue_10) hZ (own_w hw 167 rfl) (own_w hw 30 rfl) (by decide) (by decide)) (g := (mkF m 28 #[.val (.int ib)] [(.int ib), (.ref b10), (.ref b10)])) rfl (by rw [hml]; rfl) (Steps.refl _) (a := b10) (argsL := [(.int ib)]) (rest := [(.ref b10)]) (lenOf pd__I_V rfl) rfl (by show 2 * 0 + _ ≤ _; exact Nat.le_of_eq rfl) (hb hby d6_28) (fun _ _ => ⟨rfl, e10, (by decide : 1 + 0 ≤ _), (by decide : 1 + 0 ≤ _)⟩)
      dsimp only [Pt.U, Pt.locs, Pt.cells, Pt.slots] at X11 l11 y11 z11 st11 hQ11
      subst l11 y11 z11
      obtain ⟨h11, e11⟩ : ∃ h, T11.heap = h := ⟨_, rfl⟩
      rw [e11] at hQ11
      obtain ⟨rfl, Nq11, Kq11, F1_11⟩ := hQ11
      have N11 := Fr.app N0 Nq11
      have Z11 : n0 ≤ h11.size := Nat.le_trans Z10 Kq11.1
      have KK11 := KK10.trans Kq11 (allS (Or.inr sz_b10) all0)
      refine Go.trans st11 ?_
      show Go _ _ _ _ _ _ _ T11 (mkF m 31 #[.val (.int ib)] [(.ref b10)])
      have f12 := (A10.keep Kq11)
      exact Go.retA X11 hx hret hlk rfl rfl (hb hby d6_31) e11 (by decide) (by decide) ⟨b10, rfl, N11, KK11, f12, F1_11⟩
    · refine Go.step (fun _ k => XS.icmpNo X8.here hx rfl (hb hby d6_10) rfl (flt hc10_9).2.2.1 k) ?_
      show Go _ _ _ _ _ _ _ T8 (mkF m 13 #[.val (.int ib)] [])
      obtain ⟨T13, X13, e13, st13⟩ := getS2 X8 hx hZ hown (host := "") (Or.inl (own_w hw 34 rfl)) Via.refl e8 (SC.ext O0.2) (g := (mkF m 13 #[.val (.int ib)] [])) rfl (hb hby d6_13)
      refine Go.step st13 ?_
      show Go _ _ _ _ _ _ _ T13 (mkF m 16 #[.val (.int ib)] [(.ref ac)])
      refine Go.step (fun _ k => XS.iloadN X13.here hx rfl (hb hby d6_16) rfl k) ?_
      refine Go.step (fun _ k => XS.sipush X13.here hx rfl (hb hby d6_17) k) ?_
      refine Go.step (fun _ k => XS.iadd X13.here hx rfl (hb hby d6_20) rfl k) ?_
      obtain ⟨Ar14, Sz14, -⟩ := BX.ext O0.2
      have hin14 := inb_of Sz14 ⟨(own_ar3 ib hc3_4 hc10_9), (own_ar4 ib hc3_4 hc10_9)⟩
      obtain ⟨bx14, at14, Eb14, Fb14⟩ := BX.2.2.2 _ hin14
      refine Go.step (X13.aaload hx (j := (ib + (128 : Int32))) (v := .ref bx14) (by rw [e13]; exact Ar14.1) (State.isArrayOf_alike hZ.alike Ar14.2.1) rfl Ar14.2.2 hin14 at14 (g := (mkF m 21 #[.val (.int ib)] [(.int (ib + (128 : Int32))), (.ref ac)])) rfl rfl (hb hby d6_21)) ?_
      show Go _ _ _ _ _ _ _ T13 (mkF m 22 #[.val (.int ib)] [(.ref bx14)])
      have Ex14 : Exa Z h0 bx14 "java/lang/Integer" := Eb14.ext O0.2
      have Fx14 : Fld Z h0 bx14 "java/lang/Integer" "value" "I" (.int ib) := by have z := Fb14.ext O0.2; simp only [own_s128] at z; exact z
      exact Go.retA X13 hx hret hlk rfl rfl (hb hby d6_22) e13 (by decide) (by decide) ⟨bx14, rfl, N0, (Keep.refl h0 []), Ex14, Fx14⟩
theorem d28_0 : decode jdk_33_method_27_code 0 = .ok (.aload_n 0, 1) := by decide +kernel
theorem d28_1 : decode jdk_33_method_27_code 1 = .ok (.getfield 205, 3) := by decide +kernel
theorem d28_4 : decode jdk_33_method_27_code 4 = .ok (.ireturn, 1) := by decide +kernel
theorem ef_rmIv (m : MethodId) (ao : Addr) : entryFrame m #[(.ref ao)] 1 = mkF m 0 #[.val (.ref ao)] [] := by first | (simp [entryFrame, mkF, argsToLocals, Value.category]; done) | rfl
def Q_rmIv (Z : State) (ao : Addr) (ib : Int32) (h0 : Heap) (n0 : Nat) (v : Option Value) (h : Heap) (L : List Loc) : Prop := (v = some (.int ib)) ∧ (Fr n0 L) ∧ (h = h0)
theorem rmIv (l : Launch) (Z : State) (a0 : Array Value) (hw : ∀ d ∈ tables_1, d.before a0 Z = true) (ws : List Jvm.Cond) (ao : Addr) (ib : Int32) (h0 : Heap) (n0 : Nat) (Z0 : n0 ≤ h0.size) (F0 : Fld Z h0 ao "java/lang/Integer" "value" "I" (.int ib)) :
    MetFree l (⟨"java/lang/Integer", "intValue", "()I"⟩ : MethodName) (head1 (Jvm.Cond.code (⟨"java/lang/Integer", "intValue", "()I"⟩ : MethodName) jdk_33_method_27_code 1 (some .int) :: ws) ({ frames := 0, cells := 0, slots := 0, locals := 0 } : Room)) (fun aA U => aA = #[(.ref ao)] ∧ Z.Warmed39 U.vm ∧ U.heap = h0) (fun _ _ _ _ _ => True) (fun _ U o U' => ∃ v L, o = .returned v ∧ Q_rmIv Z ao ib h0 n0 v U'.heap L ∧ FrameEnd U o U' L ({ frames := 0, cells := 0, slots := 0, locals := 0 } : Room).cells ({ frames := 0, cells := 0, slots := 0, locals := 0 } : Room).slots) := by
  refine MetFree.of_bodySF (plainFor_of_name pn_java_lang_Integer) hisR ?_
  intro p e s m args below meth c s₁ Bd hml0 hP hK
  obtain ⟨rfl, hZ, hh⟩ := hP
  have hx := Bd.exec
  have hby := Bd.bytes
  have hml : c.maxLocals = 1 := hml0
  have hown : s.vm.findClass "java/lang/Integer" = some m.cls := findClass_of_methodNamed Bd.named
  have hnm := (name_of_methodNamed Bd.named Bd.method).1
  have hret := Bd.returns
  have hlk : meth.locks = false := BodyLoose.notSynchronized Bd
  have X0 : Stand p l e ({ frames := 0, cells := 0, slots := 0, locals := 0 } : Room) s m #[(.ref ao)] below meth c s₁ [] 0 0 := Stand.of_body Bd
  have e0 : s₁.heap = h0 := by rw [← hh, Bd.state]; rfl
  have N0 := Fr.nil n0
  suffices hgo : Go p e below s ({ frames := 0, cells := 0, slots := 0, locals := 0 } : Room).cells ({ frames := 0, cells := 0, slots := 0, locals := 0 } : Room).slots (Q_rmIv Z ao ib h0 n0) s₁ (mkF m 0 #[.val (.ref ao)] []) from hgo.enter (ef_rmIv m ao)
  refine Go.step (fun _ k => XS.aloadN X0.here hx rfl (hb hby d28_0) rfl rfl k) ?_
  obtain ⟨T15, X15, e15, st15⟩ := getF X0 hx hZ hown (host := "") (Or.inl (own_w hw 79 rfl)) Via.refl e0 F0 (g := (mkF m 1 #[.val (.ref ao)] [(.ref ao)])) rfl rfl (hb hby d28_1)
  refine Go.step st15 ?_
  show Go _ _ _ _ _ _ _ T15 (mkF m 4 #[.val (.ref ao)] [(.int ib)])
  exact Go.retI X15 hx hret hlk (hb hby d28_4) e15 (by decide) (by decide) ⟨rfl, N0, rfl⟩
theorem d15_0 : decode jdk_33_method_40_code 0 = .ok (.iload_n 0, 1) := by decide +kernel
theorem d15_1 : decode jdk_33_method_40_code 1 = .ok (.iload_n 1, 1) := by decide +kernel
theorem d15_2 : decode jdk_33_method_40_code 2 = .ok (.if_icmp .ge 7, 3) := by decide +kernel
theorem d15_5 : decode jdk_33_method_40_code 5 = .ok (.iconst (-1), 1) := by decide +kernel
theorem d15_6 : decode jdk_33_method_40_code 6 = .ok (.goto 13, 3) := by decide +kernel
theorem d15_9 : decode jdk_33_method_40_code 9 = .ok (.iload_n 0, 1) := by decide +kernel
theorem d15_10 : decode jdk_33_method_40_code 10 = .ok (.iload_n 1, 1) := by decide +kernel
theorem d15_11 : decode jdk_33_method_40_code 11 = .ok (.if_icmp .ne 7, 3) := by decide +kernel
theorem d15_14 : decode jdk_33_method_40_code 14 = .ok (.iconst 0, 1) := by decide +kernel
theorem d15_15 : decode jdk_33_method_40_code 15 = .ok (.goto 4, 3) := by decide +kernel
theorem d15_18 : decode jdk_33_method_40_code 18 = .ok (.iconst 1, 1) := by decide +kernel
theorem d15_19 : decode jdk_33_method_40_code 19 = .ok (.ireturn, 1) := by decide +kernel
theorem ef_rmCa (m : MethodId) (ia : Int32) (ib : Int32) : entryFrame m #[(.int ia), (.int ib)] 2 = mkF m 0 #[.val (.int ia), .val (.int ib)] [] := by first | (simp [entryFrame, mkF, argsToLocals, Value.category]; done) | rfl
def Q_rmCa (Z : State) (ia : Int32) (ib : Int32) (h0 : Heap) (n0 : Nat) (v : Option Value) (h : Heap) (L : List Loc) : Prop := (v = some (.int (own_cmp ia ib))) ∧ (Fr n0 L) ∧ (h = h0)
theorem rmCa (l : Launch) (Z : State) (a0 : Array Value) (hw : ∀ d ∈ tables_1, d.before a0 Z = true) (ws : List Jvm.Cond) (ia : Int32) (ib : Int32) (h0 : Heap) (n0 : Nat) (Z0 : n0 ≤ h0.size) :
    MetFree l (⟨"java/lang/Integer", "compare", "(II)I"⟩ : MethodName) (head1 (Jvm.Cond.code (⟨"java/lang/Integer", "compare", "(II)I"⟩ : MethodName) jdk_33_method_40_code 2 (some .int) :: ws) ({ frames := 0, cells := 0, slots := 0, locals := 0 } : Room)) (fun aA U => aA = #[(.int ia), (.int ib)] ∧ Z.Warmed39 U.vm ∧ U.heap = h0) (fun _ _ _ _ _ => True) (fun _ U o U' => ∃ v L, o = .returned v ∧ Q_rmCa Z ia ib h0 n0 v U'.heap L ∧ FrameEnd U o U' L ({ frames := 0, cells := 0, slots := 0, locals := 0 } : Room).cells ({ frames := 0, cells := 0, slots := 0, locals := 0 } : Room).slots) := by
  refine MetFree.of_bodySF (plainFor_of_name pn_java_lang_Integer) hisR ?_
  intro p e s m args below meth c s₁ Bd hml0 hP hK
  obtain ⟨rfl, hZ, hh⟩ := hP
  have hx := Bd.exec
  have hby := Bd.bytes
  have hml : c.maxLocals = 2 := hml0
  have hown : s.vm.findClass "java/lang/Integer" = some m.cls := findClass_of_methodNamed Bd.named
  have hnm := (name_of_methodNamed Bd.named Bd.method).1
  have hret := Bd.returns
  have hlk : meth.locks = false := BodyLoose.notSynchronized Bd
  have X0 : Stand p l e ({ frames := 0, cells := 0, slots := 0, locals := 0 } : Room) s m #[(.int ia), (.int ib)] below meth c s₁ [] 0 0 := Stand.of_body Bd
  have e0 : s₁.heap = h0 := by rw [← hh, Bd.state]; rfl
  have N0 := Fr.nil n0
  suffices hgo : Go p e below s ({ frames := 0, cells := 0, slots := 0, locals := 0 } : Room).cells ({ frames := 0, cells := 0, slots := 0, locals := 0 } : Room).slots (Q_rmCa Z ia ib h0 n0) s₁ (mkF m 0 #[.val (.int ia), .val (.int ib)] []) from hgo.enter (ef_rmCa m ia ib)
  refine Go.step (fun _ k => XS.iloadN X0.here hx rfl (hb hby d15_0) rfl k) ?_
  refine Go.step (fun _ k => XS.iloadN X0.here hx rfl (hb hby d15_1) rfl k) ?_
  by_cases hc2_16 : ia < ib
  · refine Go.step (fun _ k => XS.icmpNo X0.here hx rfl (hb hby d15_2) rfl (tlt hc2_16).2.1 k) ?_
    show Go _ _ _ _ _ _ _ s₁ (mkF m 5 #[.val (.int ia), .val (.int ib)] [])
    refine Go.step (fun _ k => XS.iconst X0.here hx rfl (hb hby d15_5) k) ?_
    refine Go.step (fun _ k => XS.goto X0.here hx rfl (pc0 := 6) (pc' := 19) rfl (hb hby d15_6) (by decide) (by decide) k) ?_
    show Go _ _ _ _ _ _ _ s₁ (mkF m 19 #[.val (.int ia), .val (.int ib)] [(.int (-1 : Int32))])
    exact Go.retI X0 hx hret hlk (hb hby d15_19) e0 (by decide) (by decide) ⟨(congrArg (fun z => some (Value.int z)) (show (-1 : Int32) = own_cmp ia ib from (if_pos hc2_16).symm)), N0, rfl⟩
  · refine Go.step (fun _ k => XS.icmpYes X0.here hx rfl (pc0 := 2) (pc' := 9) rfl (hb hby d15_2) rfl (flt hc2_16).2.1 (by decide) (by decide) k) ?_
    show Go _ _ _ _ _ _ _ s₁ (mkF m 9 #[.val (.int ia), .val (.int ib)] [])
    refine Go.step (fun _ k => XS.iloadN X0.here hx rfl (hb hby d15_9) rfl k) ?_
    refine Go.step (fun _ k => XS.iloadN X0.here hx rfl (hb hby d15_10) rfl k) ?_
    by_cases hc11_17 : ia = ib
    · refine Go.step (fun _ k => XS.icmpNo X0.here hx rfl (hb hby d15_11) rfl (teq hc11_17).2 k) ?_
      show Go _ _ _ _ _ _ _ s₁ (mkF m 14 #[.val (.int ia), .val (.int ib)] [])
      refine Go.step (fun _ k => XS.iconst X0.here hx rfl (hb hby d15_14) k) ?_
      refine Go.step (fun _ k => XS.goto X0.here hx rfl (pc0 := 15) (pc' := 19) rfl (hb hby d15_15) (by decide) (by decide) k) ?_
      show Go _ _ _ _ _ _ _ s₁ (mkF m 19 #[.val (.int ia), .val (.int ib)] [(.int (0 : Int32))])
      exact Go.retI X0 hx hret hlk (hb hby d15_19) e0 (by decide) (by decide) ⟨(congrArg (fun z => some (Value.int z)) (show (0 : Int32) = own_cmp ia ib from ((if_neg hc2_16).trans (if_pos hc11_17)).symm)), N0, rfl⟩
    · refine Go.step (fun _ k => XS.icmpYes X0.here hx rfl (pc0 := 11) (pc' := 18) rfl (hb hby d15_11) rfl (feq hc11_17).2 (by decide) (by decide) k) ?_
      show Go _ _ _ _ _ _ _ s₁ (mkF m 18 #[.val (.int ia), .val (.int ib)] [])
      refine Go.step (fun _ k => XS.iconst X0.here hx rfl (hb hby d15_18) k) ?_
      exact Go.retI X0 hx hret hlk (hb hby d15_19) e0 (by decide) (by decide) ⟨(congrArg (fun z => some (Value.int z)) (show (1 : Int32) = own_cmp ia ib from ((if_neg hc2_16).trans (if_neg hc11_17)).symm)), N0, rfl⟩
theorem d14_0 : decode jdk_33_method_39_code 0 = .ok (.aload_n 0, 1) := by decide +kernel
theorem d14_1 : decode jdk_33_method_39_code 1 = .ok (.getfield 205, 3) := by decide +kernel
theorem d14_4 : decode jdk_33_method_39_code 4 = .ok (.aload_n 1, 1) := by decide +kernel
theorem d14_5 : decode jdk_33_method_39_code 5 = .ok (.getfield 205, 3) := by decide +kernel
theorem d14_8 : decode jdk_33_method_39_code 8 = .ok (.invokestatic 259, 3) := by decide +kernel
theorem d14_11 : decode jdk_33_method_39_code 11 = .ok (.ireturn, 1) := by decide +kernel
theorem pd__II_I : parseMethodDescriptor "(II)I" = some ⟨[.int, .int], some .int⟩ := by decide +kernel
theorem ef_rmCb (m : MethodId) (aa : Addr) (ab : Addr) : entryFrame m #[(.ref aa), (.ref ab)] 2 = mkF m 0 #[.val (.ref aa), .val (.ref ab)] [] := by first | (simp [entryFrame, mkF, argsToLocals, Value.category]; done) | rfl
def Q_rmCb (Z : State) (aa : Addr) (ab : Addr) (ia : Int32) (ib : Int32) (h0 : Heap) (n0 : Nat) (v : Option Value) (h : Heap) (L : List Loc) : Prop := (v = some (.int (own_cmp ia ib))) ∧ (Fr n0 L) ∧ (h = h0)
theorem rmCb (l : Launch) (Z : State) (a0 : Array Value) (hw : ∀ d ∈ tables_1, d.before a0 Z = true) (ws : List Jvm.Cond) (aa : Addr) (ab : Addr) (ia : Int32) (ib : Int32) (h0 : Heap) (n0 : Nat) (Z0 : n0 ≤ h0.size) (E1 : Exa Z h0 aa "java/lang/Integer") (F1 : Fld Z h0 aa "java/lang/Integer" "value" "I" (.int ia)) (E2 : Exa Z h0 ab "java/lang/Integer") (F2 : Fld Z h0 ab "java/lang/Integer" "value" "I" (.int ib)) :
    MetFree l (⟨"java/lang/Integer", "compareTo", "(Ljava/lang/Integer;)I"⟩ : MethodName) (head1 (Jvm.Cond.code (⟨"java/lang/Integer", "compareTo", "(Ljava/lang/Integer;)I"⟩ : MethodName) jdk_33_method_39_code 2 (some .int) :: ws) ({ frames := 1, cells := 0, slots := 0, locals := 13 } : Room)) (fun aA U => aA = #[(.ref aa), (.ref ab)] ∧ Z.Warmed39 U.vm ∧ U.heap = h0) (fun _ _ _ _ _ => True) (fun _ U o U' => ∃ v L, o = .returned v ∧ Q_rmCb Z aa ab ia ib h0 n0 v U'.heap L ∧ FrameEnd U o U' L ({ frames := 1, cells := 0, slots := 0, locals := 13 } : Room).cells ({ frames := 1, cells := 0, slots := 0, locals := 13 } : Room).slots) := by
  refine MetFree.of_bodySF (plainFor_of_name pn_java_lang_Integer) hisR ?_
  intro p e s m args below meth c s₁ Bd hml0 hP hK
  obtain ⟨rfl, hZ, hh⟩ := hP
  have hx := Bd.exec
  have hby := Bd.bytes
  have hml : c.maxLocals = 2 := hml0
  have hown : s.vm.findClass "java/lang/Integer" = some m.cls := findClass_of_methodNamed Bd.named
  have hnm := (name_of_methodNamed Bd.named Bd.method).1
  have hret := Bd.returns
  have hlk : meth.locks = false := BodyLoose.notSynchronized Bd
  have X0 : Stand p l e ({ frames := 1, cells := 0, slots := 0, locals := 13 } : Room) s m #[(.ref aa), (.ref ab)] below meth c s₁ [] 0 0 := Stand.of_body Bd
  have e0 : s₁.heap = h0 := by rw [← hh, Bd.state]; rfl
  have N0 := Fr.nil n0
  suffices hgo : Go p e below s ({ frames := 1, cells := 0, slots := 0, locals := 13 } : Room).cells ({ frames := 1, cells := 0, slots := 0, locals := 13 } : Room).slots (Q_rmCb Z aa ab ia ib h0 n0) s₁ (mkF m 0 #[.val (.ref aa), .val (.ref ab)] []) from hgo.enter (ef_rmCb m aa ab)
  refine Go.step (fun _ k => XS.aloadN X0.here hx rfl (hb hby d14_0) rfl rfl k) ?_
  obtain ⟨T18, X18, e18, st18⟩ := getF X0 hx hZ hown (host := "") (Or.inl (own_w hw 79 rfl)) Via.refl e0 F1 (g := (mkF m 1 #[.val (.ref aa), .val (.ref ab)] [(.ref aa)])) rfl rfl (hb hby d14_1)
  refine Go.step st18 ?_
  show Go _ _ _ _ _ _ _ T18 (mkF m 4 #[.val (.ref aa), .val (.ref ab)] [(.int ia)])
  refine Go.step (fun _ k => XS.aloadN X18.here hx rfl (hb hby d14_4) rfl rfl k) ?_
  obtain ⟨T19, X19, e19, st19⟩ := getF X18 hx hZ hown (host := "") (Or.inl (own_w hw 79 rfl)) Via.refl e18 F2 (g := (mkF m 5 #[.val (.ref aa), .val (.ref ab)] [(.ref ab), (.int ia)])) rfl rfl (hb hby d14_5)
  refine Go.step st19 ?_
  show Go _ _ _ _ _ _ _ T19 (mkF m 8 #[.val (.ref aa), .val (.ref ab)] [(.int ib), (.int ia)])
  obtain ⟨_, _, ⟨T20, L20, k20, n20⟩, -, X20, ⟨Lc20, hQ20, l20, y20, z20⟩, st20⟩ := Jvm.LawKit.callS X19 hx (y := (⟨"java/lang/Integer", "compare", "(II)I"⟩ : MethodName)) hown (mvT hZ (own_w hw 81 rfl)) (mvT hZ (own_w hw 82 rfl)) (mvT hZ (own_w hw 30 rfl)) (mvT hZ (own_w hw 83 rfl)) (by decide) (backOf (W := 0) (rmCa l Z a0 hw [] ia ib h0 n0 Z0 ) hZ (own_w hw 83 rfl) (own_w hw 30 rfl) (by decide) (by decide)) (g := (mkF m 8 #[.val (.ref aa), .val (.ref ab)] [(.int ib), (.int ia)])) rfl (by rw [hml]; rfl) (argsL := [(.int ia), (.int ib)]) (rest := []) (lenOf pd__II_I rfl) rfl (by show 2 * 0 + _ ≤ _; exact Nat.le_of_eq rfl) (hb hby d14_8) (fun _ _ => ⟨rfl, e19, (by decide : 0 + 0 ≤ _), (by decide : 0 + 0 ≤ _)⟩)
  dsimp only [Pt.U, Pt.locs, Pt.cells, Pt.slots] at X20 l20 y20 z20 st20 hQ20
  subst l20 y20 z20
  obtain ⟨h20, e20⟩ : ∃ h, T20.heap = h := ⟨_, rfl⟩
  rw [e20] at hQ20
  obtain ⟨rfl, Nq20, hs20⟩ := hQ20
  have N20 := Fr.app N0 Nq20
  rw [hs20] at e20
  refine Go.step st20 ?_
  show Go _ _ _ _ _ _ _ T20 (mkF m 11 #[.val (.ref aa), .val (.ref ab)] [(.int (own_cmp ia ib))])
  exact Go.retI X20 hx hret hlk (hb hby d14_11) e20 (by decide) (by decide) ⟨rfl, N20, rfl⟩
theorem d13_0 : decode jdk_33_method_63_code 0 = .ok (.aload_n 0, 1) := by decide +kernel
theorem d13_1 : decode jdk_33_method_63_code 1 = .ok (.aload_n 1, 1) := by decide +kernel
theorem d13_2 : decode jdk_33_method_63_code 2 = .ok (.checkcast 1, 3) := by decide +kernel
theorem d13_5 : decode jdk_33_method_63_code 5 = .ok (.invokevirtual 284, 3) := by decide +kernel
theorem d13_8 : decode jdk_33_method_63_code 8 = .ok (.ireturn, 1) := by decide +kernel
theorem pd__Ljava_lang_Integer__I : parseMethodDescriptor "(Ljava/lang/Integer;)I" = some ⟨[(.object "java/lang/Integer")], some .int⟩ := by decide +kernel
theorem ef_rmCc (m : MethodId) (aa : Addr) (ab : Addr) : entryFrame m #[(.ref aa), (.ref ab)] 2 = mkF m 0 #[.val (.ref aa), .val (.ref ab)] [] := by first | (simp [entryFrame, mkF, argsToLocals, Value.category]; done) | rfl
def Q_rmCc (Z : State) (aa : Addr) (ab : Addr) (ia : Int32) (ib : Int32) (h0 : Heap) (n0 : Nat) (v : Option Value) (h : Heap) (L : List Loc) : Prop := (v = some (.int (own_cmp ia ib))) ∧ (Fr n0 L) ∧ (h = h0)
theorem rmCc (l : Launch) (Z : State) (a0 : Array Value) (hw : ∀ d ∈ tables_1, d.before a0 Z = true) (ws : List Jvm.Cond) (aa : Addr) (ab : Addr) (ia : Int32) (ib : Int32) (h0 : Heap) (n0 : Nat) (Z0 : n0 ≤ h0.size) (E1 : Exa Z h0 aa "java/lang/Integer") (F1 : Fld Z h0 aa "java/lang/Integer" "value" "I" (.int ia)) (E2 : Exa Z h0 ab "java/lang/Integer") (F2 : Fld Z h0 ab "java/lang/Integer" "value" "I" (.int ib)) :
    MetFree l (⟨"java/lang/Integer", "compareTo", "(Ljava/lang/Object;)I"⟩ : MethodName) (head1 (Jvm.Cond.code (⟨"java/lang/Integer", "compareTo", "(Ljava/lang/Object;)I"⟩ : MethodName) jdk_33_method_63_code 2 (some .int) :: ws) ({ frames := 2, cells := 0, slots := 0, locals := 26 } : Room)) (fun aA U => aA = #[(.ref aa), (.ref ab)] ∧ Z.Warmed39 U.vm ∧ U.heap = h0) (fun _ _ _ _ _ => True) (fun _ U o U' => ∃ v L, o = .returned v ∧ Q_rmCc Z aa ab ia ib h0 n0 v U'.heap L ∧ FrameEnd U o U' L ({ frames := 2, cells := 0, slots := 0, locals := 26 } : Room).cells ({ frames := 2, cells := 0, slots := 0, locals := 26 } : Room).slots) := by
  refine MetFree.of_bodySF (plainFor_of_name pn_java_lang_Integer) hisR ?_
  intro p e s m args below meth c s₁ Bd hml0 hP hK
  obtain ⟨rfl, hZ, hh⟩ := hP
  have hx := Bd.exec
  have hby := Bd.bytes
  have hml : c.maxLocals = 2 := hml0
  have hown : s.vm.findClass "java/lang/Integer" = some m.cls := findClass_of_methodNamed Bd.named
  have hnm := (name_of_methodNamed Bd.named Bd.method).1
  have hret := Bd.returns
  have hlk : meth.locks = false := BodyLoose.notSynchronized Bd
  have X0 : Stand p l e ({ frames := 2, cells := 0, slots := 0, locals := 26 } : Room) s m #[(.ref aa), (.ref ab)] below meth c s₁ [] 0 0 := Stand.of_body Bd
  have e0 : s₁.heap = h0 := by rw [← hh, Bd.state]; rfl
  have N0 := Fr.nil n0
  suffices hgo : Go p e below s ({ frames := 2, cells := 0, slots := 0, locals := 26 } : Room).cells ({ frames := 2, cells := 0, slots := 0, locals := 26 } : Room).slots (Q_rmCc Z aa ab ia ib h0 n0) s₁ (mkF m 0 #[.val (.ref aa), .val (.ref ab)] []) from hgo.enter (ef_rmCc m aa ab)
  refine Go.step (fun _ k => XS.aloadN X0.here hx rfl (hb hby d13_0) rfl rfl k) ?_
  refine Go.step (fun _ k => XS.aloadN X0.here hx rfl (hb hby d13_1) rfl rfl k) ?_
  obtain ⟨T21, X21, e21, st21⟩ := castY X0 hx hZ hown (own_w hw 72 rfl) e0 (Ins.self E2) (g := (mkF m 2 #[.val (.ref aa), .val (.ref ab)] [(.ref ab), (.ref aa)])) rfl rfl (hb hby d13_2)
  refine Go.step st21 ?_
  show Go _ _ _ _ _ _ _ T21 (mkF m 5 #[.val (.ref aa), .val (.ref ab)] [(.ref ab), (.ref aa)])
  obtain ⟨cq22, kq22, q22a, q22b, q22c⟩ := isOf hZ e21 E1
  obtain ⟨_, _, ⟨T22, L22, k22, n22⟩, -, X22, ⟨Lc22, hQ22, l22, y22, z22⟩, st22⟩ := X21.virtualBack hx (y := (⟨"java/lang/Integer", "compareTo", "(Ljava/lang/Integer;)I"⟩ : MethodName)) (z := (⟨"java/lang/Integer", "compareTo", "(Ljava/lang/Integer;)I"⟩ : MethodName)) hown (mvT hZ (own_w hw 74 rfl)) (mvT hZ (own_w hw 75 rfl)) (notFace_of_selects (args := #[]) (mvT hZ (own_w hw 77 rfl))) (mvT hZ (own_w hw 77 rfl)) (mvT hZ (own_w hw 76 rfl)) (by decide) (backOf (W := 0) (rmCb l Z a0 hw [] aa ab ia ib h0 n0 Z0 E1 F1 E2 F2) hZ (own_w hw 78 rfl) (own_w hw 30 rfl) (by decide) (by decide)) q22a q22c (g := (mkF m 5 #[.val (.ref aa), .val (.ref ab)] [(.ref ab), (.ref aa)])) rfl (by rw [hml]; rfl) (Steps.refl _) (argsL := [(.ref ab)]) (rest := []) (lenOf pd__Ljava_lang_Integer__I rfl) rfl (by show 2 * 0 + _ ≤ _; exact Nat.le_of_eq rfl) (hb hby d13_5) (fun _ _ => ⟨rfl, e21, (by decide : 0 + 0 ≤ _), (by decide : 0 + 0 ≤ _)⟩)
  dsimp only [Pt.U, Pt.locs, Pt.cells, Pt.slots] at X22 l22 y22 z22 st22 hQ22
  subst l22 y22 z22
  obtain ⟨h22, e22⟩ : ∃ h, T22.heap = h := ⟨_, rfl⟩
  rw [e22] at hQ22
  obtain ⟨rfl, Nq22, hs22⟩ := hQ22
  have N22 := Fr.app N0 Nq22
  rw [hs22] at e22
  refine Go.trans st22 ?_
  show Go _ _ _ _ _ _ _ T22 (mkF m 8 #[.val (.ref aa), .val (.ref ab)] [(.int (own_cmp ia ib))])
  exact Go.retI X22 hx hret hlk (hb hby d13_8) e22 (by decide) (by decide) ⟨rfl, N22, rfl⟩
theorem d12_0 : decode prog_23_method_3_code 0 = .ok (.aload_n 0, 1) := by decide +kernel
theorem d12_1 : decode prog_23_method_3_code 1 = .ok (.ifnull 14, 3) := by decide +kernel
theorem d12_15 : decode prog_23_method_3_code 15 = .ok (.aload_n 1, 1) := by decide +kernel
theorem d12_16 : decode prog_23_method_3_code 16 = .ok (.checkcast 35, 3) := by decide +kernel
theorem d12_19 : decode prog_23_method_3_code 19 = .ok (.aload_n 2, 1) := by decide +kernel
theorem d12_20 : decode prog_23_method_3_code 20 = .ok (.invokeinterface 37 2, 5) := by decide +kernel
theorem d12_25 : decode prog_23_method_3_code 25 = .ok (.ireturn, 1) := by decide +kernel
theorem pd__Ljava_lang_Object__I : parseMethodDescriptor "(Ljava/lang/Object;)I" = some ⟨[(.object "java/lang/Object")], some .int⟩ := by decide +kernel
theorem pn_gatherwick_core_Sorting : plainName "gatherwick/core/Sorting" = true := by first | (simp [plainName, overriddenIn]; done) | decide +kernel
theorem ef_rmCd (m : MethodId) (aa : Addr) (ab : Addr) : entryFrame m #[.null, (.ref aa), (.ref ab)] 3 = mkF m 0 #[.val .null, .val (.ref aa), .val (.ref ab)] [] := by first | (simp [entryFrame, mkF, argsToLocals, Value.category]; done) | rfl
def Q_rmCd (Z : State) (aa : Addr) (ab : Addr) (ia : Int32) (ib : Int32) (h0 : Heap) (n0 : Nat) (v : Option Value) (h : Heap) (L : List Loc) : Prop := (v = some (.int (own_cmp ia ib))) ∧ (Fr n0 L) ∧ (h = h0)
theorem rmCd (l : Launch) (Z : State) (a0 : Array Value) (hw : ∀ d ∈ tables_1, d.before a0 Z = true) (ws : List Jvm.Cond) (aa : Addr) (ab : Addr) (ia : Int32) (ib : Int32) (h0 : Heap) (n0 : Nat) (Z0 : n0 ≤ h0.size) (E1 : Exa Z h0 aa "java/lang/Integer") (F1 : Fld Z h0 aa "java/lang/Integer" "value" "I" (.int ia)) (E2 : Exa Z h0 ab "java/lang/Integer") (F2 : Fld Z h0 ab "java/lang/Integer" "value" "I" (.int ib)) :
    MetFree l (⟨"gatherwick/core/Sorting", "compare", "(Ljava/util/Comparator;Ljava/lang/Object;Ljava/lang/Object;)I"⟩ : MethodName) (head1 (Jvm.Cond.code (⟨"gatherwick/core/Sorting", "compare", "(Ljava/util/Comparator;Ljava/lang/Object;Ljava/lang/Object;)I"⟩ : MethodName) prog_23_method_3_code 3 (some .int) :: ws) ({ frames := 3, cells := 0, slots := 0, locals := 39 } : Room)) (fun aA U => aA = #[.null, (.ref aa), (.ref ab)] ∧ Z.Warmed39 U.vm ∧ U.heap = h0) (fun _ _ _ _ _ => True) (fun _ U o U' => ∃ v L, o = .returned v ∧ Q_rmCd Z aa ab ia ib h0 n0 v U'.heap L ∧ FrameEnd U o U' L ({ frames := 3, cells := 0, slots := 0, locals := 39 } : Room).cells ({ frames := 3, cells := 0, slots := 0, locals := 39 } : Room).slots) := by
  refine MetFree.of_bodySF (plainFor_of_name pn_gatherwick_core_Sorting) hisR ?_
  intro p e s m args below meth c s₁ Bd hml0 hP hK
  obtain ⟨rfl, hZ, hh⟩ := hP
  have hx := Bd.exec
  have hby := Bd.bytes
  have hml : c.maxLocals = 3 := hml0
  have hown : s.vm.findClass "gatherwick/core/Sorting" = some m.cls := findClass_of_methodNamed Bd.named
  have hnm := (name_of_methodNamed Bd.named Bd.method).1
  have hret := Bd.returns
  have hlk : meth.locks = false := BodyLoose.notSynchronized Bd
  have X0 : Stand p l e ({ frames := 3, cells := 0, slots := 0, locals := 39 } : Room) s m #[.null, (.ref aa), (.ref ab)] below meth c s₁ [] 0 0 := Stand.of_body Bd
  have e0 : s₁.heap = h0 := by rw [← hh, Bd.state]; rfl
  have N0 := Fr.nil n0
  suffices hgo : Go p e below s ({ frames := 3, cells := 0, slots := 0, locals := 39 } : Room).cells ({ frames := 3, cells := 0, slots := 0, locals := 39 } : Room).slots (Q_rmCd Z aa ab ia ib h0 n0) s₁ (mkF m 0 #[.val .null, .val (.ref aa), .val (.ref ab)] []) from hgo.enter (ef_rmCd m aa ab)
  refine Go.step (fun _ k => XS.aloadN X0.here hx rfl (hb hby d12_0) rfl rfl k) ?_
  refine Go.step (fun _ k => XS.ifnullYes X0.here hx rfl (pc0 := 1) (pc' := 15) rfl (hb hby d12_1) rfl (by decide) (by decide) k) ?_
  show Go _ _ _ _ _ _ _ s₁ (mkF m 15 #[.val .null, .val (.ref aa), .val (.ref ab)] [])
  refine Go.step (fun _ k => XS.aloadN X0.here hx rfl (hb hby d12_15) rfl rfl k) ?_
  obtain ⟨T23, X23, e23, st23⟩ := castY X0 hx hZ hown (own_w hw 62 rfl) e0 (Ins.of_exa E1 (own_w hw 63 rfl)) (g := (mkF m 16 #[.val .null, .val (.ref aa), .val (.ref ab)] [(.ref aa)])) rfl rfl (hb hby d12_16)
  refine Go.step st23 ?_
  show Go _ _ _ _ _ _ _ T23 (mkF m 19 #[.val .null, .val (.ref aa), .val (.ref ab)] [(.ref aa)])
  refine Go.step (fun _ k => XS.aloadN X23.here hx rfl (hb hby d12_19) rfl rfl k) ?_
  obtain ⟨cq24, kq24, q24a, q24b, q24c⟩ := isOf hZ e23 E1
  obtain ⟨_, _, ⟨T24, L24, k24, n24⟩, -, X24, ⟨Lc24, hQ24, l24, y24, z24⟩, st24⟩ := X23.interfaceBack hx (xi := (⟨"java/lang/Comparable", "compareTo", "(Ljava/lang/Object;)I"⟩ : MethodName)) (y := (⟨"java/lang/Integer", "compareTo", "(Ljava/lang/Object;)I"⟩ : MethodName)) hown (mvT hZ (own_w hw 64 rfl)) (mvT hZ (own_w hw 65 rfl)) (mvT hZ (own_w hw 66 rfl)) (mvT hZ (own_w hw 67 rfl)) (mvT hZ (own_w hw 68 rfl)) (mvT hZ (own_w hw 69 rfl)) (mvT hZ (own_w hw 70 rfl)) (mvT hZ (own_w hw 63 rfl)) (by decide) (backOf (W := 0) (rmCc l Z a0 hw [] aa ab ia ib h0 n0 Z0 E1 F1 E2 F2) hZ (own_w hw 71 rfl) (own_w hw 30 rfl) (by decide) (by decide)) q24a q24b q24c (g := (mkF m 20 #[.val .null, .val (.ref aa), .val (.ref ab)] [(.ref ab), (.ref aa)])) rfl (by rw [hml]; rfl) (Steps.refl _) (argsL := [(.ref ab)]) (rest := []) (lenOf pd__Ljava_lang_Object__I rfl) rfl (by show 2 * 0 + _ ≤ _; exact Nat.le_of_eq rfl) (hb hby d12_20) (fun _ _ => ⟨rfl, e23, (by decide : 0 + 0 ≤ _), (by decide : 0 + 0 ≤ _)⟩)
  dsimp only [Pt.U, Pt.locs, Pt.cells, Pt.slots] at X24 l24 y24 z24 st24 hQ24
  subst l24 y24 z24
  obtain ⟨h24, e24⟩ : ∃ h, T24.heap = h := ⟨_, rfl⟩
  rw [e24] at hQ24
  obtain ⟨rfl, Nq24, hs24⟩ := hQ24
  have N24 := Fr.app N0 Nq24
  rw [hs24] at e24
  refine Go.trans st24 ?_
  show Go _ _ _ _ _ _ _ T24 (mkF m 25 #[.val .null, .val (.ref aa), .val (.ref ab)] [(.int (own_cmp ia ib))])
  exact Go.retI X24 hx hret hlk (hb hby d12_25) e24 (by decide) (by decide) ⟨rfl, N24, rfl⟩
theorem d11_0 : decode prog_46_method_85_code 0 = .ok (.aload_n 0, 1) := by decide +kernel
theorem d11_1 : decode prog_46_method_85_code 1 = .ok (.getfield 9, 3) := by decide +kernel
theorem d11_4 : decode prog_46_method_85_code 4 = .ok (.aload_n 1, 1) := by decide +kernel
theorem d11_5 : decode prog_46_method_85_code 5 = .ok (.aload_n 2, 1) := by decide +kernel
theorem d11_6 : decode prog_46_method_85_code 6 = .ok (.invokestatic 444, 3) := by decide +kernel
theorem d11_9 : decode prog_46_method_85_code 9 = .ok (.ireturn, 1) := by decide +kernel
theorem pd__Ljava_util_Comparator_Ljava_lang_Object_Ljava_lang_Object__I : parseMethodDescriptor "(Ljava/util/Comparator;Ljava/lang/Object;Ljava/lang/Object;)I" = some ⟨[(.object "java/util/Comparator"), (.object "java/lang/Object"), (.object "java/lang/Object")], some .int⟩ := by decide +kernel
theorem pn_gatherwick_maps_GwTreeMap : plainName "gatherwick/maps/GwTreeMap" = true := by first | (simp [plainName, overriddenIn]; done) | decide +kernel
theorem ef_rmCe (m : MethodId) (am : Addr) (aa : Addr) (ab : Addr) : entryFrame m #[(.ref am), (.ref aa), (.ref ab)] 3 = mkF m 0 #[.val (.ref am), .val (.ref aa), .val (.ref ab)] [] := by first | (simp [entryFrame, mkF, argsToLocals, Value.category]; done) | rfl
def Q_rmCe (Z : State) (am : Addr) (aa : Addr) (ab : Addr) (ia : Int32) (ib : Int32) (h0 : Heap) (n0 : Nat) (v : Option Value) (h : Heap) (L : List Loc) : Prop := (v = some (.int (own_cmp ia ib))) ∧ (Fr n0 L) ∧ (h = h0)
theorem rmCe (l : Launch) (Z : State) (a0 : Array Value) (hw : ∀ d ∈ tables_1, d.before a0 Z = true) (ws : List Jvm.Cond) (am : Addr) (aa : Addr) (ab : Addr) (ia : Int32) (ib : Int32) (h0 : Heap) (n0 : Nat) (Z0 : n0 ≤ h0.size) (Fc : Fld Z h0 am "gatherwick/maps/GwTreeMap" "comparator" "Ljava/util/Comparator;" .null) (E1 : Exa Z h0 aa "java/lang/Integer") (F1 : Fld Z h0 aa "java/lang/Integer" "value" "I" (.int ia)) (E2 : Exa Z h0 ab "java/lang/Integer") (F2 : Fld Z h0 ab "java/lang/Integer" "value" "I" (.int ib)) :
    MetFree l (⟨"gatherwick/maps/GwTreeMap", "compare", "(Ljava/lang/Object;Ljava/lang/Object;)I"⟩ : MethodName) (head1 (Jvm.Cond.code (⟨"gatherwick/maps/GwTreeMap", "compare", "(Ljava/lang/Object;Ljava/lang/Object;)I"⟩ : MethodName) prog_46_method_85_code 3 (some .int) :: ws) ({ frames := 4, cells := 0, slots := 0, locals := 53 } : Room)) (fun aA U => aA = #[(.ref am), (.ref aa), (.ref ab)] ∧ Z.Warmed39 U.vm ∧ U.heap = h0) (fun _ _ _ _ _ => True) (fun _ U o U' => ∃ v L, o = .returned v ∧ Q_rmCe Z am aa ab ia ib h0 n0 v U'.heap L ∧ FrameEnd U o U' L ({ frames := 4, cells := 0, slots := 0, locals := 53 } : Room).cells ({ frames := 4, cells := 0, slots := 0, locals := 53 } : Room).slots) := by
  refine MetFree.of_bodySF (plainFor_of_name pn_gatherwick_maps_GwTreeMap) hisR ?_
  intro p e s m args below meth c s₁ Bd hml0 hP hK
  obtain ⟨rfl, hZ, hh⟩ := hP
  have hx := Bd.exec
  have hby := Bd.bytes
  have hml : c.maxLocals = 3 := hml0
  have hown : s.vm.findClass "gatherwick/maps/GwTreeMap" = some m.cls := findClass_of_methodNamed Bd.named
  have hnm := (name_of_methodNamed Bd.named Bd.method).1
  have hret := Bd.returns
  have hlk : meth.locks = false := BodyLoose.notSynchronized Bd
  have X0 : Stand p l e ({ frames := 4, cells := 0, slots := 0, locals := 53 } : Room) s m #[(.ref am), (.ref aa), (.ref ab)] below meth c s₁ [] 0 0 := Stand.of_body Bd
  have e0 : s₁.heap = h0 := by rw [← hh, Bd.state]; rfl
  have N0 := Fr.nil n0
  suffices hgo : Go p e below s ({ frames := 4, cells := 0, slots := 0, locals := 53 } : Room).cells ({ frames := 4, cells := 0, slots := 0, locals := 53 } : Room).slots (Q_rmCe Z am aa ab ia ib h0 n0) s₁ (mkF m 0 #[.val (.ref am), .val (.ref aa), .val (.ref ab)] []) from hgo.enter (ef_rmCe m am aa ab)
  refine Go.step (fun _ k => XS.aloadN X0.here hx rfl (hb hby d11_0) rfl rfl k) ?_
  obtain ⟨T25, X25, e25, st25⟩ := getF X0 hx hZ hown (host := "") (Or.inl (own_w hw 14 rfl)) Via.refl e0 Fc (g := (mkF m 1 #[.val (.ref am), .val (.ref aa), .val (.ref ab)] [(.ref am)])) rfl rfl (hb hby d11_1)
  refine Go.step st25 ?_
  show Go _ _ _ _ _ _ _ T25 (mkF m 4 #[.val (.ref am), .val (.ref aa), .val (.ref ab)] [.null])
  refine Go.step (fun _ k => XS.aloadN X25.here hx rfl (hb hby d11_4) rfl rfl k) ?_
  refine Go.step (fun _ k => XS.aloadN X25.here hx rfl (hb hby d11_5) rfl rfl k) ?_
  obtain ⟨_, _, ⟨T26, L26, k26, n26⟩, -, X26, ⟨Lc26, hQ26, l26, y26, z26⟩, st26⟩ := Jvm.LawKit.callS X25 hx (y := (⟨"gatherwick/core/Sorting", "compare", "(Ljava/util/Comparator;Ljava/lang/Object;Ljava/lang/Object;)I"⟩ : MethodName)) hown (mvT hZ (own_w hw 58 rfl)) (mvT hZ (own_w hw 59 rfl)) (mvT hZ (own_w hw 60 rfl)) (mvT hZ (own_w hw 61 rfl)) (by decide) (backOf (W := 0) (rmCd l Z a0 hw [] aa ab ia ib h0 n0 Z0 E1 F1 E2 F2) hZ (own_w hw 61 rfl) (own_w hw 60 rfl) (by decide) (by decide)) (g := (mkF m 6 #[.val (.ref am), .val (.ref aa), .val (.ref ab)] [(.ref ab), (.ref aa), .null])) rfl (by rw [hml]; rfl) (argsL := [.null, (.ref aa), (.ref ab)]) (rest := []) (lenOf pd__Ljava_util_Comparator_Ljava_lang_Object_Ljava_lang_Object__I rfl) rfl (by show 2 * 0 + _ ≤ _; exact Nat.le_of_eq rfl) (hb hby d11_6) (fun _ _ => ⟨rfl, e25, (by decide : 0 + 0 ≤ _), (by decide : 0 + 0 ≤ _)⟩)
  dsimp only [Pt.U, Pt.locs, Pt.cells, Pt.slots] at X26 l26 y26 z26 st26 hQ26
  subst l26 y26 z26
  obtain ⟨h26, e26⟩ : ∃ h, T26.heap = h := ⟨_, rfl⟩
  rw [e26] at hQ26
  obtain ⟨rfl, Nq26, hs26⟩ := hQ26
  have N26 := Fr.app N0 Nq26
  rw [hs26] at e26
  refine Go.step st26 ?_
  show Go _ _ _ _ _ _ _ T26 (mkF m 9 #[.val (.ref am), .val (.ref aa), .val (.ref ab)] [(.int (own_cmp ia ib))])
  exact Go.retI X26 hx hret hlk (hb hby d11_9) e26 (by decide) (by decide) ⟨rfl, N26, rfl⟩
theorem d2_0 : decode prog_20_method_1_code 0 = .ok (.aload_n 0, 1) := by decide +kernel
theorem d2_1 : decode prog_20_method_1_code 1 = .ok (.invokespecial 1, 3) := by decide +kernel
theorem d2_4 : decode prog_20_method_1_code 4 = .ok (.return_, 1) := by decide +kernel
theorem pn_gatherwick_core_BaseMap : plainName "gatherwick/core/BaseMap" = true := by first | (simp [plainName, overriddenIn]; done) | decide +kernel
theorem ef_rmBm (m : MethodId) (ao : Addr) : entryFrame m #[(.ref ao)] 1 = mkF m 0 #[.val (.ref ao)] [] := by first | (simp [entryFrame, mkF, argsToLocals, Value.category]; done) | rfl
def Q_rmBm (Z : State) (ao : Addr) (h0 : Heap) (n0 : Nat) (v : Option Value) (h : Heap) (L : List Loc) : Prop := (v = none) ∧ (Fr n0 L) ∧ (h = h0)
theorem rmBm (l : Launch) (Z : State) (a0 : Array Value) (hw : ∀ d ∈ tables_1, d.before a0 Z = true) (ws : List Jvm.Cond) (ao : Addr) (h0 : Heap) (n0 : Nat) (Z0 : n0 ≤ h0.size) :
    MetFree l (⟨"gatherwick/core/BaseMap", "<init>", "()V"⟩ : MethodName) (head1 (Jvm.Cond.code (⟨"gatherwick/core/BaseMap", "<init>", "()V"⟩ : MethodName) prog_20_method_1_code 1 none :: ws) ({ frames := 1, cells := 0, slots := 0, locals := 12 } : Room)) (fun aA U => aA = #[(.ref ao)] ∧ Z.Warmed39 U.vm ∧ U.heap = h0) (fun _ _ _ _ _ => True) (fun _ U o U' => ∃ v L, o = .returned v ∧ Q_rmBm Z ao h0 n0 v U'.heap L ∧ FrameEnd U o U' L ({ frames := 1, cells := 0, slots := 0, locals := 12 } : Room).cells ({ frames := 1, cells := 0, slots := 0, locals := 12 } : Room).slots) := by
  refine MetFree.of_bodySF (plainFor_of_name pn_gatherwick_core_BaseMap) hisR ?_
  intro p e s m args below meth c s₁ Bd hml0 hP hK
  obtain ⟨rfl, hZ, hh⟩ := hP
  have hx := Bd.exec
  have hby := Bd.bytes
  have hml : c.maxLocals = 1 := hml0
  have hown : s.vm.findClass "gatherwick/core/BaseMap" = some m.cls := findClass_of_methodNamed Bd.named
  have hnm := (name_of_methodNamed Bd.named Bd.method).1
  have hret := Bd.returns
  have hlk : meth.locks = false := BodyLoose.notSynchronized Bd
  have X0 : Stand p l e ({ frames := 1, cells := 0, slots := 0, locals := 12 } : Room) s m #[(.ref ao)] below meth c s₁ [] 0 0 := Stand.of_body Bd
  have e0 : s₁.heap = h0 := by rw [← hh, Bd.state]; rfl
  have N0 := Fr.nil n0
  suffices hgo : Go p e below s ({ frames := 1, cells := 0, slots := 0, locals := 12 } : Room).cells ({ frames := 1, cells := 0, slots := 0, locals := 12 } : Room).slots (Q_rmBm Z ao h0 n0) s₁ (mkF m 0 #[.val (.ref ao)] []) from hgo.enter (ef_rmBm m ao)
  refine Go.step (fun _ k => XS.aloadN X0.here hx rfl (hb hby d2_0) rfl rfl k) ?_
  obtain ⟨T27, X27, e27, st27⟩ := initO X0 hx hZ hown (own_w hw 11 rfl) (own_w hw 12 rfl) (own_w hw 13 rfl) e0 (g := (mkF m 1 #[.val (.ref ao)] [(.ref ao)])) rfl (by rw [hml]; rfl) rfl (hb hby d2_1) (by decide) (W := 0) (by show 2 * 0 + _ ≤ _; exact Nat.le_of_eq rfl) (by decide)
  refine Go.step st27 ?_
  show Go _ _ _ _ _ _ _ T27 (mkF m 4 #[.val (.ref ao)] [])
  exact Go.ret0 X27 hx hret hlk (hb hby d2_4) e27 (by decide) (by decide) ⟨rfl, N0, rfl⟩
theorem d1_0 : decode prog_46_method_1_code 0 = .ok (.aload_n 0, 1) := by decide +kernel
theorem d1_1 : decode prog_46_method_1_code 1 = .ok (.invokespecial 3, 3) := by decide +kernel
theorem d1_4 : decode prog_46_method_1_code 4 = .ok (.aload_n 0, 1) := by decide +kernel
theorem d1_5 : decode prog_46_method_1_code 5 = .ok (.aconst_null, 1) := by decide +kernel
theorem d1_6 : decode prog_46_method_1_code 6 = .ok (.putfield 9, 3) := by decide +kernel
theorem d1_9 : decode prog_46_method_1_code 9 = .ok (.return_, 1) := by decide +kernel
theorem ef_rmMi (m : MethodId) (am : Addr) : entryFrame m #[(.ref am)] 1 = mkF m 0 #[.val (.ref am)] [] := by first | (simp [entryFrame, mkF, argsToLocals, Value.category]; done) | rfl
def Q_rmMi (Z : State) (am : Addr) (h0 : Heap) (n0 : Nat) (v : Option Value) (h : Heap) (L : List Loc) : Prop := (v = none) ∧ (Fr n0 L) ∧ (Keep h0 h [am]) ∧ (Fld Z h am "gatherwick/maps/GwTreeMap" "comparator" "Ljava/util/Comparator;" .null) ∧ (Fld Z h am "gatherwick/maps/GwTreeMap" "root" "Lgatherwick/maps/RedBlackTree$Node;" .null) ∧ (Fld Z h am "gatherwick/maps/GwTreeMap" "size" "I" (.int (0 : Int32))) ∧ (Fld Z h am "gatherwick/maps/GwTreeMap" "modCount" "I" (.int (0 : Int32)))
theorem rmMi (l : Launch) (Z : State) (a0 : Array Value) (hw : ∀ d ∈ tables_1, d.before a0 Z = true) (ws : List Jvm.Cond) (am : Addr) (h0 : Heap) (n0 : Nat) (Z0 : n0 ≤ h0.size) (E0 : Exa Z h0 am "gatherwick/maps/GwTreeMap") (g0 : n0 ≤ am) (a_comparator : Fld Z h0 am "gatherwick/maps/GwTreeMap" "comparator" "Ljava/util/Comparator;" .null) (a_root : Fld Z h0 am "gatherwick/maps/GwTreeMap" "root" "Lgatherwick/maps/RedBlackTree$Node;" .null) (a_size : Fld Z h0 am "gatherwick/maps/GwTreeMap" "size" "I" (.int (0 : Int32))) (a_modCount : Fld Z h0 am "gatherwick/maps/GwTreeMap" "modCount" "I" (.int (0 : Int32))) :
    MetFree l (⟨"gatherwick/maps/GwTreeMap", "<init>", "()V"⟩ : MethodName) (head1 (Jvm.Cond.code (⟨"gatherwick/maps/GwTreeMap", "<init>", "()V"⟩ : MethodName) prog_46_method_1_code 1 none :: ws) ({ frames := 2, cells := 0, slots := 0, locals := 24 } : Room)) (fun aA U => aA = #[(.ref am)] ∧ Z.Warmed39 U.vm ∧ U.heap = h0) (fun _ _ _ _ _ => True) (fun _ U o U' => ∃ v L, o = .returned v ∧ Q_rmMi Z am h0 n0 v U'.heap L ∧ FrameEnd U o U' L ({ frames := 2, cells := 0, slots := 0, locals := 24 } : Room).cells ({ frames := 2, cells := 0, slots := 0, locals := 24 } : Room).slots) := by
  refine MetFree.of_bodySF (plainFor_of_name pn_gatherwick_maps_GwTreeMap) hisR ?_
  intro p e s m args below meth c s₁ Bd hml0 hP hK
  obtain ⟨rfl, hZ, hh⟩ := hP
  have hx := Bd.exec
  have hby := Bd.bytes
  have hml : c.maxLocals = 1 := hml0
  have hown : s.vm.findClass "gatherwick/maps/GwTreeMap" = some m.cls := findClass_of_methodNamed Bd.named
  have hnm := (name_of_methodNamed Bd.named Bd.method).1
  have hret := Bd.returns
  have hlk : meth.locks = false := BodyLoose.notSynchronized Bd
  have X0 : Stand p l e ({ frames := 2, cells := 0, slots := 0, locals := 24 } : Room) s m #[(.ref am)] below meth c s₁ [] 0 0 := Stand.of_body Bd
  have e0 : s₁.heap = h0 := by rw [← hh, Bd.state]; rfl
  have N0 := Fr.nil n0
  suffices hgo : Go p e below s ({ frames := 2, cells := 0, slots := 0, locals := 24 } : Room).cells ({ frames := 2, cells := 0, slots := 0, locals := 24 } : Room).slots (Q_rmMi Z am h0 n0) s₁ (mkF m 0 #[.val (.ref am)] []) from hgo.enter (ef_rmMi m am)
  refine Go.step (fun _ k => XS.aloadN X0.here hx rfl (hb hby d1_0) rfl rfl k) ?_
  obtain ⟨_, _, ⟨T28, L28, k28, n28⟩, -, X28, ⟨Lc28, hQ28, l28, y28, z28⟩, st28⟩ := X0.specialBack hx (y := (⟨"gatherwick/core/BaseMap", "<init>", "()V"⟩ : MethodName)) rfl hown (mvT hZ (own_w hw 6 rfl)) (mvT hZ (own_w hw 7 rfl)) (mvT hZ (own_w hw 10 rfl)) (by decide) (backOf (W := 0) (rmBm l Z a0 hw [] am h0 n0 Z0 ) hZ (own_w hw 10 rfl) (own_w hw 9 rfl) (by decide) (by decide)) (g := (mkF m 1 #[.val (.ref am)] [(.ref am)])) rfl (by rw [hml]; rfl) (Steps.refl _) (a := am) (argsL := []) (rest := []) (lenOf pd___V rfl) rfl (by show 2 * 0 + _ ≤ _; exact Nat.le_of_eq rfl) (hb hby d1_1) (fun _ _ => ⟨rfl, e0, (by decide : 0 + 0 ≤ _), (by decide : 0 + 0 ≤ _)⟩)
  dsimp only [Pt.U, Pt.locs, Pt.cells, Pt.slots] at X28 l28 y28 z28 st28 hQ28
  subst l28 y28 z28
  obtain ⟨h28, e28⟩ : ∃ h, T28.heap = h := ⟨_, rfl⟩
  rw [e28] at hQ28
  obtain ⟨rfl, Nq28, hs28⟩ := hQ28
  have N28 := Fr.app N0 Nq28
  rw [hs28] at e28
  refine Go.trans st28 ?_
  show Go _ _ _ _ _ _ _ T28 (mkF m 4 #[.val (.ref am)] [])
  refine Go.step (fun _ k => XS.aloadN X28.here hx rfl (hb hby d1_4) rfl rfl k) ?_
  refine Go.step (fun _ k => XS.aconstNull X28.here hx rfl (hb hby d1_5) k) ?_
  obtain ⟨T29, h29, X29, e29, W29, st29⟩ := putF X28 hx hZ hown (host := "") (Or.inl (own_w hw 14 rfl)) Via.refl e28 a_comparator E0 (Or.inr ⟨(own_w hw 15 rfl), rfl, hnm⟩) (own_w hw 1 rfl) (ty := (.object "java/util/Comparator")) (by decide) rfl rfl (g := (mkF m 6 #[.val (.ref am)] [.null, (.ref am)])) rfl rfl (hb hby d1_6)
  refine Go.step st29 ?_
  have Fw29 := a_comparator.same W29
  have N29 := Fr.snoc X29 N28 g0
  have Z29 : n0 ≤ h29.size := Nat.le_trans Z0 (Keep.of_wr W29).1
  have KK29 := (Keep.refl h0 [am]).wr W29 (Or.inl (List.mem_of_getElem? (i := 0) rfl))
  show Go _ _ _ _ _ _ _ T29 (mkF m 9 #[.val (.ref am)] [])
  have f30 := (a_root.other W29 (Or.inr (slot_ne (a0 := a0) (C := "gatherwick/maps/GwTreeMap") (Or.inl (own_w hw 53 rfl)) (Or.inr (own_w hw 15 rfl)) (by decide) (t := (.object "gatherwick/maps/RedBlackTree$Node")) (t' := (.object "java/util/Comparator")) (by decide) (by decide))))
  have f31 := (a_size.other W29 (Or.inr (slot_ne (a0 := a0) (C := "gatherwick/maps/GwTreeMap") (Or.inl (own_w hw 22 rfl)) (Or.inr (own_w hw 15 rfl)) (by decide) (t := .int) (t' := (.object "java/util/Comparator")) (by decide) (by decide))))
  have f32 := (a_modCount.other W29 (Or.inr (slot_ne (a0 := a0) (C := "gatherwick/maps/GwTreeMap") (Or.inl (own_w hw 155 rfl)) (Or.inr (own_w hw 15 rfl)) (by decide) (t := .int) (t' := (.object "java/util/Comparator")) (by decide) (by decide))))
  exact Go.ret0 X29 hx hret hlk (hb hby d1_9) e29 (by decide) (by decide) ⟨rfl, N29, KK29, Fw29, f30, f31, f32⟩
theorem d20_0 : decode prog_47_method_1_code 0 = .ok (.aload_n 0, 1) := by decide +kernel
theorem d20_1 : decode prog_47_method_1_code 1 = .ok (.invokespecial 1, 3) := by decide +kernel
theorem d20_4 : decode prog_47_method_1_code 4 = .ok (.return_, 1) := by decide +kernel
theorem pn_gatherwick_maps_GwTreeMap_Place : plainName "gatherwick/maps/GwTreeMap$Place" = true := by first | (simp [plainName, overriddenIn]; done) | decide +kernel
theorem ef_rmPi (m : MethodId) (ao : Addr) : entryFrame m #[(.ref ao)] 1 = mkF m 0 #[.val (.ref ao)] [] := by first | (simp [entryFrame, mkF, argsToLocals, Value.category]; done) | rfl
def Q_rmPi (Z : State) (ao : Addr) (h0 : Heap) (n0 : Nat) (v : Option Value) (h : Heap) (L : List Loc) : Prop := (v = none) ∧ (Fr n0 L) ∧ (h = h0)
theorem rmPi (l : Launch) (Z : State) (a0 : Array Value) (hw : ∀ d ∈ tables_1, d.before a0 Z = true) (ws : List Jvm.Cond) (ao : Addr) (h0 : Heap) (n0 : Nat) (Z0 : n0 ≤ h0.size) :
    MetFree l (⟨"gatherwick/maps/GwTreeMap$Place", "<init>", "()V"⟩ : MethodName) (head1 (Jvm.Cond.code (⟨"gatherwick/maps/GwTreeMap$Place", "<init>", "()V"⟩ : MethodName) prog_47_method_1_code 1 none :: ws) ({ frames := 1, cells := 0, slots := 0, locals := 12 } : Room)) (fun aA U => aA = #[(.ref ao)] ∧ Z.Warmed39 U.vm ∧ U.heap = h0) (fun _ _ _ _ _ => True) (fun _ U o U' => ∃ v L, o = .returned v ∧ Q_rmPi Z ao h0 n0 v U'.heap L ∧ FrameEnd U o U' L ({ frames := 1, cells := 0, slots := 0, locals := 12 } : Room).cells ({ frames := 1, cells := 0, slots := 0, locals := 12 } : Room).slots) := by
  refine MetFree.of_bodySF (plainFor_of_name pn_gatherwick_maps_GwTreeMap_Place) hisR ?_
  intro p e s m args below meth c s₁ Bd hml0 hP hK
  obtain ⟨rfl, hZ, hh⟩ := hP
  have hx := Bd.exec
  have hby := Bd.bytes
  have hml : c.maxLocals = 1 := hml0
  have hown : s.vm.findClass "gatherwick/maps/GwTreeMap$Place" = some m.cls := findClass_of_methodNamed Bd.named
  have hnm := (name_of_methodNamed Bd.named Bd.method).1
  have hret := Bd.returns
  have hlk : meth.locks = false := BodyLoose.notSynchronized Bd
  have X0 : Stand p l e ({ frames := 1, cells := 0, slots := 0, locals := 12 } : Room) s m #[(.ref ao)] below meth c s₁ [] 0 0 := Stand.of_body Bd
  have e0 : s₁.heap = h0 := by rw [← hh, Bd.state]; rfl
  have N0 := Fr.nil n0
  suffices hgo : Go p e below s ({ frames := 1, cells := 0, slots := 0, locals := 12 } : Room).cells ({ frames := 1, cells := 0, slots := 0, locals := 12 } : Room).slots (Q_rmPi Z ao h0 n0) s₁ (mkF m 0 #[.val (.ref ao)] []) from hgo.enter (ef_rmPi m ao)
  refine Go.step (fun _ k => XS.aloadN X0.here hx rfl (hb hby d20_0) rfl rfl k) ?_
  obtain ⟨T33, X33, e33, st33⟩ := initO X0 hx hZ hown (own_w hw 107 rfl) (own_w hw 12 rfl) (own_w hw 13 rfl) e0 (g := (mkF m 1 #[.val (.ref ao)] [(.ref ao)])) rfl (by rw [hml]; rfl) rfl (hb hby d20_1) (by decide) (W := 0) (by show 2 * 0 + _ ≤ _; exact Nat.le_of_eq rfl) (by decide)
  refine Go.step st33 ?_
  show Go _ _ _ _ _ _ _ T33 (mkF m 4 #[.val (.ref ao)] [])
  exact Go.ret0 X33 hx hret hlk (hb hby d20_4) e33 (by decide) (by decide) ⟨rfl, N0, rfl⟩
theorem d24_0 : decode prog_15_method_1_code 0 = .ok (.aload_n 0, 1) := by decide +kernel
theorem d24_1 : decode prog_15_method_1_code 1 = .ok (.invokespecial 1, 3) := by decide +kernel
theorem d24_4 : decode prog_15_method_1_code 4 = .ok (.return_, 1) := by decide +kernel
theorem pn_gatherwick_core_BaseEntry : plainName "gatherwick/core/BaseEntry" = true := by first | (simp [plainName, overriddenIn]; done) | decide +kernel
theorem ef_rmBe (m : MethodId) (ao : Addr) : entryFrame m #[(.ref ao)] 1 = mkF m 0 #[.val (.ref ao)] [] := by first | (simp [entryFrame, mkF, argsToLocals, Value.category]; done) | rfl
def Q_rmBe (Z : State) (ao : Addr) (h0 : Heap) (n0 : Nat) (v : Option Value) (h : Heap) (L : List Loc) : Prop := (v = none) ∧ (Fr n0 L) ∧ (h = h0)
theorem rmBe (l : Launch) (Z : State) (a0 : Array Value) (hw : ∀ d ∈ tables_1, d.before a0 Z = true) (ws : List Jvm.Cond) (ao : Addr) (h0 : Heap) (n0 : Nat) (Z0 : n0 ≤ h0.size) :
    MetFree l (⟨"gatherwick/core/BaseEntry", "<init>", "()V"⟩ : MethodName) (head1 (Jvm.Cond.code (⟨"gatherwick/core/BaseEntry", "<init>", "()V"⟩ : MethodName) prog_15_method_1_code 1 none :: ws) ({ frames := 1, cells := 0, slots := 0, locals := 12 } : Room)) (fun aA U => aA = #[(.ref ao)] ∧ Z.Warmed39 U.vm ∧ U.heap = h0) (fun _ _ _ _ _ => True) (fun _ U o U' => ∃ v L, o = .returned v ∧ Q_rmBe Z ao h0 n0 v U'.heap L ∧ FrameEnd U o U' L ({ frames := 1, cells := 0, slots := 0, locals := 12 } : Room).cells ({ frames := 1, cells := 0, slots := 0, locals := 12 } : Room).slots) := by
  refine MetFree.of_bodySF (plainFor_of_name pn_gatherwick_core_BaseEntry) hisR ?_
  intro p e s m args below meth c s₁ Bd hml0 hP hK
  obtain ⟨rfl, hZ, hh⟩ := hP
  have hx := Bd.exec
  have hby := Bd.bytes
  have hml : c.maxLocals = 1 := hml0
  have hown : s.vm.findClass "gatherwick/core/BaseEntry" = some m.cls := findClass_of_methodNamed Bd.named
  have hnm := (name_of_methodNamed Bd.named Bd.method).1
  have hret := Bd.returns
  have hlk : meth.locks = false := BodyLoose.notSynchronized Bd
  have X0 : Stand p l e ({ frames := 1, cells := 0, slots := 0, locals := 12 } : Room) s m #[(.ref ao)] below meth c s₁ [] 0 0 := Stand.of_body Bd
  have e0 : s₁.heap = h0 := by rw [← hh, Bd.state]; rfl
  have N0 := Fr.nil n0
  suffices hgo : Go p e below s ({ frames := 1, cells := 0, slots := 0, locals := 12 } : Room).cells ({ frames := 1, cells := 0, slots := 0, locals := 12 } : Room).slots (Q_rmBe Z ao h0 n0) s₁ (mkF m 0 #[.val (.ref ao)] []) from hgo.enter (ef_rmBe m ao)
  refine Go.step (fun _ k => XS.aloadN X0.here hx rfl (hb hby d24_0) rfl rfl k) ?_
  obtain ⟨T34, X34, e34, st34⟩ := initO X0 hx hZ hown (own_w hw 131 rfl) (own_w hw 12 rfl) (own_w hw 13 rfl) e0 (g := (mkF m 1 #[.val (.ref ao)] [(.ref ao)])) rfl (by rw [hml]; rfl) rfl (hb hby d24_1) (by decide) (W := 0) (by show 2 * 0 + _ ≤ _; exact Nat.le_of_eq rfl) (by decide)
  refine Go.step st34 ?_
  show Go _ _ _ _ _ _ _ T34 (mkF m 4 #[.val (.ref ao)] [])
  exact Go.ret0 X34 hx hret hlk (hb hby d24_4) e34 (by decide) (by decide) ⟨rfl, N0, rfl⟩
theorem d23_0 : decode prog_59_method_1_code 0 = .ok (.aload_n 0, 1) := by decide +kernel
theorem d23_1 : decode prog_59_method_1_code 1 = .ok (.invokespecial 1, 3) := by decide +kernel
theorem d23_4 : decode prog_59_method_1_code 4 = .ok (.aload_n 0, 1) := by decide +kernel
theorem d23_5 : decode prog_59_method_1_code 5 = .ok (.iconst 1, 1) := by decide +kernel
theorem d23_6 : decode prog_59_method_1_code 6 = .ok (.putfield 7, 3) := by decide +kernel
theorem d23_9 : decode prog_59_method_1_code 9 = .ok (.aload_n 0, 1) := by decide +kernel
theorem d23_10 : decode prog_59_method_1_code 10 = .ok (.aload_n 1, 1) := by decide +kernel
theorem d23_11 : decode prog_59_method_1_code 11 = .ok (.putfield 13, 3) := by decide +kernel
theorem d23_14 : decode prog_59_method_1_code 14 = .ok (.aload_n 0, 1) := by decide +kernel
theorem d23_15 : decode prog_59_method_1_code 15 = .ok (.aload_n 2, 1) := by decide +kernel
theorem d23_16 : decode prog_59_method_1_code 16 = .ok (.putfield 17, 3) := by decide +kernel
theorem d23_19 : decode prog_59_method_1_code 19 = .ok (.aload_n 0, 1) := by decide +kernel
theorem d23_20 : decode prog_59_method_1_code 20 = .ok (.aload_n 3, 1) := by decide +kernel
theorem d23_21 : decode prog_59_method_1_code 21 = .ok (.putfield 20, 3) := by decide +kernel
theorem d23_24 : decode prog_59_method_1_code 24 = .ok (.return_, 1) := by decide +kernel
theorem pn_gatherwick_maps_RedBlackTree_Node : plainName "gatherwick/maps/RedBlackTree$Node" = true := by first | (simp [plainName, overriddenIn]; done) | decide +kernel
theorem ef_rmNi (m : MethodId) (an : Addr) (ak : Addr) (av : Addr) (vq : Value) (hr_vq : vq.isRef = true) : entryFrame m #[(.ref an), (.ref ak), (.ref av), vq] 4 = mkF m 0 #[.val (.ref an), .val (.ref ak), .val (.ref av), .val vq] [] := by rcases ref_cases hr_vq with rfl | ⟨_, rfl⟩ <;> first | (simp [entryFrame, mkF, argsToLocals, Value.category]; done) | rfl
def Q_rmNi (Z : State) (an : Addr) (ak : Addr) (av : Addr) (vq : Value) (h0 : Heap) (n0 : Nat) (v : Option Value) (h : Heap) (L : List Loc) : Prop := (v = none) ∧ (Fr n0 L) ∧ (Keep h0 h [an]) ∧ (Fld Z h an "gatherwick/maps/RedBlackTree$Node" "key" "Ljava/lang/Object;" (.ref ak)) ∧ (Fld Z h an "gatherwick/maps/RedBlackTree$Node" "value" "Ljava/lang/Object;" (.ref av)) ∧ (Fld Z h an "gatherwick/maps/RedBlackTree$Node" "left" "Lgatherwick/maps/RedBlackTree$Node;" .null) ∧ (Fld Z h an "gatherwick/maps/RedBlackTree$Node" "right" "Lgatherwick/maps/RedBlackTree$Node;" .null) ∧ (Fld Z h an "gatherwick/maps/RedBlackTree$Node" "parent" "Lgatherwick/maps/RedBlackTree$Node;" vq) ∧ (Fld Z h an "gatherwick/maps/RedBlackTree$Node" "red" "Z" (.int (1 : Int32)))
theorem rmNi (l : Launch) (Z : State) (a0 : Array Value) (hw : ∀ d ∈ tables_1, d.before a0 Z = true) (ws : List Jvm.Cond) (an : Addr) (ak : Addr) (av : Addr) (vq : Value) (h0 : Heap) (n0 : Nat) (Z0 : n0 ≤ h0.size) (E0 : Exa Z h0 an "gatherwick/maps/RedBlackTree$Node") (g0 : n0 ≤ an) (a_key : Fld Z h0 an "gatherwick/maps/RedBlackTree$Node" "key" "Ljava/lang/Object;" .null) (a_value : Fld Z h0 an "gatherwick/maps/RedBlackTree$Node" "value" "Ljava/lang/Object;" .null) (a_left : Fld Z h0 an "gatherwick/maps/RedBlackTree$Node" "left" "Lgatherwick/maps/RedBlackTree$Node;" .null) (a_right : Fld Z h0 an "gatherwick/maps/RedBlackTree$Node" "right" "Lgatherwick/maps/RedBlackTree$Node;" .null) (a_parent : Fld Z h0 an "gatherwick/maps/RedBlackTree$Node" "parent" "Lgatherwick/maps/RedBlackTree$Node;" .null) (a_red : Fld Z h0 an "gatherwick/maps/RedBlackTree$Node" "red" "Z" (.int (0 : Int32))) (hr_vq : vq.isRef = true) :
    MetFree l (⟨"gatherwick/maps/RedBlackTree$Node", "<init>", "(Ljava/lang/Object;Ljava/lang/Object;Lgatherwick/maps/RedBlackTree$Node;)V"⟩ : MethodName) (head1 (Jvm.Cond.code (⟨"gatherwick/maps/RedBlackTree$Node", "<init>", "(Ljava/lang/Object;Ljava/lang/Object;Lgatherwick/maps/RedBlackTree$Node;)V"⟩ : MethodName) prog_59_method_1_code 4 none :: ws) ({ frames := 2, cells := 0, slots := 0, locals := 24 } : Room)) (fun aA U => aA = #[(.ref an), (.ref ak), (.ref av), vq] ∧ Z.Warmed39 U.vm ∧ U.heap = h0) (fun _ _ _ _ _ => True) (fun _ U o U' => ∃ v L, o = .returned v ∧ Q_rmNi Z an ak av vq h0 n0 v U'.heap L ∧ FrameEnd U o U' L ({ frames := 2, cells := 0, slots := 0, locals := 24 } : Room).cells ({ frames := 2, cells := 0, slots := 0, locals := 24 } : Room).slots) := by
  refine MetFree.of_bodySF (plainFor_of_name pn_gatherwick_maps_RedBlackTree_Node) hisR ?_
  intro p e s m args below meth c s₁ Bd hml0 hP hK
  obtain ⟨rfl, hZ, hh⟩ := hP
  have hx := Bd.exec
  have hby := Bd.bytes
  have hml : c.maxLocals = 4 := hml0
  have hown : s.vm.findClass "gatherwick/maps/RedBlackTree$Node" = some m.cls := findClass_of_methodNamed Bd.named
  have hnm := (name_of_methodNamed Bd.named Bd.method).1
  have hret := Bd.returns
  have hlk : meth.locks = false := BodyLoose.notSynchronized Bd
  have X0 : Stand p l e ({ frames := 2, cells := 0, slots := 0, locals := 24 } : Room) s m #[(.ref an), (.ref ak), (.ref av), vq] below meth c s₁ [] 0 0 := Stand.of_body Bd
  have e0 : s₁.heap = h0 := by rw [← hh, Bd.state]; rfl
  have N0 := Fr.nil n0
  suffices hgo : Go p e below s ({ frames := 2, cells := 0, slots := 0, locals := 24 } : Room).cells ({ frames := 2, cells := 0, slots := 0, locals := 24 } : Room).slots (Q_rmNi Z an ak av vq h0 n0) s₁ (mkF m 0 #[.val (.ref an), .val (.ref ak), .val (.ref av), .val vq] []) from hgo.enter (ef_rmNi m an ak av vq hr_vq)
  refine Go.step (fun _ k => XS.aloadN X0.here hx rfl (hb hby d23_0) rfl rfl k) ?_
  obtain ⟨_, _, ⟨T35, L35, k35, n35⟩, -, X35, ⟨Lc35, hQ35, l35, y35, z35⟩, st35⟩ := X0.specialBack hx (y := (⟨"gatherwick/core/BaseEntry", "<init>", "()V"⟩ : MethodName)) rfl hown (mvT hZ (own_w hw 126 rfl)) (mvT hZ (own_w hw 127 rfl)) (mvT hZ (own_w hw 130 rfl)) (by decide) (backOf (W := 0) (rmBe l Z a0 hw [] an h0 n0 Z0 ) hZ (own_w hw 130 rfl) (own_w hw 129 rfl) (by decide) (by decide)) (g := (mkF m 1 #[.val (.ref an), .val (.ref ak), .val (.ref av), .val vq] [(.ref an)])) rfl (by rw [hml]; rfl) (Steps.refl _) (a := an) (argsL := []) (rest := []) (lenOf pd___V rfl) rfl (by show 2 * 0 + _ ≤ _; exact Nat.le_of_eq rfl) (hb hby d23_1) (fun _ _ => ⟨rfl, e0, (by decide : 0 + 0 ≤ _), (by decide : 0 + 0 ≤ _)⟩)
  dsimp only [Pt.U, Pt.locs, Pt.cells, Pt.slots] at X35 l35 y35 z35 st35 hQ35
  subst l35 y35 z35
  obtain ⟨h35, e35⟩ : ∃ h, T35.heap = h := ⟨_, rfl⟩
  rw [e35] at hQ35
  obtain ⟨rfl, Nq35, hs35⟩ := hQ35
  have N35 := Fr.app N0 Nq35
  rw [hs35] at e35
  refine Go.trans st35 ?_
  show Go _ _ _ _ _ _ _ T35 (mkF m 4 #[.val (.ref an), .val (.ref ak), .val (.ref av), .val vq] [])
  refine Go.step (fun _ k => XS.aloadN X35.here hx rfl (hb hby d23_4) rfl rfl k) ?_
  refine Go.step (fun _ k => XS.iconst X35.here hx rfl (hb hby d23_5) k) ?_
  obtain ⟨T36, h36, X36, e36, W36, st36⟩ := putFN X35 hx hZ hown (own_w hw 132 rfl) Via.refl e35 a_red E0 (Or.inl (own_w hw 133 rfl)) (own_w hw 119 rfl) (ty := .boolean) (v' := (.int (1 : Int32))) (by decide) rfl rfl (g := (mkF m 6 #[.val (.ref an), .val (.ref ak), .val (.ref av), .val vq] [(.int (1 : Int32)), (.ref an)])) rfl rfl (hb hby d23_6)
  refine Go.step st36 ?_
  have Fw36 := a_red.same W36
  have N36 := Fr.snoc X36 N35 g0
  have Z36 : n0 ≤ h36.size := Nat.le_trans Z0 (Keep.of_wr W36).1
  have KK36 := (Keep.refl h0 [an]).wr W36 (Or.inl (List.mem_of_getElem? (i := 0) rfl))
  show Go _ _ _ _ _ _ _ T36 (mkF m 9 #[.val (.ref an), .val (.ref ak), .val (.ref av), .val vq] [])
  refine Go.step (fun _ k => XS.aloadN X36.here hx rfl (hb hby d23_9) rfl rfl k) ?_
  refine Go.step (fun _ k => XS.aloadN X36.here hx rfl (hb hby d23_10) rfl rfl k) ?_
  have f37 := (a_key.other W36 (Or.inr (slot_ne (a0 := a0) (C := "gatherwick/maps/RedBlackTree$Node") (Or.inr (own_w hw 135 rfl)) (Or.inl (own_w hw 133 rfl)) (by decide) (t := (.object "java/lang/Object")) (t' := .boolean) (by decide) (by decide))))
  have f38 := (E0.wr W36)
  obtain ⟨T39, h39, X39, e39, W39, st39⟩ := putF X36 hx hZ hown (host := "") (Or.inl (own_w hw 134 rfl)) Via.refl e36 f37 f38 (Or.inr ⟨(own_w hw 135 rfl), rfl, hnm⟩) (own_w hw 119 rfl) (ty := (.object "java/lang/Object")) (by decide) rfl rfl (g := (mkF m 11 #[.val (.ref an), .val (.ref ak), .val (.ref av), .val vq] [(.ref ak), (.ref an)])) rfl rfl (hb hby d23_11)
  refine Go.step st39 ?_
  have Fw39 := f37.same W39
  have N39 := Fr.snoc X39 N36 g0
  have Z39 : n0 ≤ h39.size := Nat.le_trans Z36 (Keep.of_wr W39).1
  have KK39 := KK36.wr W39 (Or.inl (List.mem_of_getElem? (i := 0) rfl))
  show Go _ _ _ _ _ _ _ T39 (mkF m 14 #[.val (.ref an), .val (.ref ak), .val (.ref av), .val vq] [])
  refine Go.step (fun _ k => XS.aloadN X39.here hx rfl (hb hby d23_14) rfl rfl k) ?_
  refine Go.step (fun _ k => XS.aloadN X39.here hx rfl (hb hby d23_15) rfl rfl k) ?_
  have f40 := ((a_value.other W36 (Or.inr (slot_ne (a0 := a0) (C := "gatherwick/maps/RedBlackTree$Node") (Or.inl (own_w hw 137 rfl)) (Or.inl (own_w hw 133 rfl)) (by decide) (t := (.object "java/lang/Object")) (t' := .boolean) (by decide) (by decide)))).other W39 (Or.inr (slot_ne (a0 := a0) (C := "gatherwick/maps/RedBlackTree$Node") (Or.inl (own_w hw 137 rfl)) (Or.inr (own_w hw 135 rfl)) (by decide) (t := (.object "java/lang/Object")) (t' := (.object "java/lang/Object")) (by decide) (by decide))))
  have f41 := (f38.wr W39)
  obtain ⟨T42, h42, X42, e42, W42, st42⟩ := putF X39 hx hZ hown (host := "") (Or.inl (own_w hw 136 rfl)) Via.refl e39 f40 f41 (Or.inl (own_w hw 137 rfl)) (own_w hw 119 rfl) (ty := (.object "java/lang/Object")) (by decide) rfl rfl (g := (mkF m 16 #[.val (.ref an), .val (.ref ak), .val (.ref av), .val vq] [(.ref av), (.ref an)])) rfl rfl (hb hby d23_16)
  refine Go.step st42 ?_
  have Fw42 := f40.same W42
  have N42 := Fr.snoc X42 N39 g0
  have Z42 : n0 ≤ h42.size := Nat.le_trans Z39 (Keep.of_wr W42).1
  have KK42 := KK39.wr W42 (Or.inl (List.mem_of_getElem? (i := 0) rfl))
  show Go _ _ _ _ _ _ _ T42 (mkF m 19 #[.val (.ref an), .val (.ref ak), .val (.ref av), .val vq] [])
  refine Go.step (fun _ k => XS.aloadN X42.here hx rfl (hb hby d23_19) rfl rfl k) ?_
  refine Go.step (fun _ k => XS.aloadN X42.here hx rfl (hb hby d23_20) rfl hr_vq k) ?_
  have f43 := (((a_parent.other W36 (Or.inr (slot_ne (a0 := a0) (C := "gatherwick/maps/RedBlackTree$Node") (Or.inl (own_w hw 139 rfl)) (Or.inl (own_w hw 133 rfl)) (by decide) (t := (.object "gatherwick/maps/RedBlackTree$Node")) (t' := .boolean) (by decide) (by decide)))).other W39 (Or.inr (slot_ne (a0 := a0) (C := "gatherwick/maps/RedBlackTree$Node") (Or.inl (own_w hw 139 rfl)) (Or.inr (own_w hw 135 rfl)) (by decide) (t := (.object "gatherwick/maps/RedBlackTree$Node")) (t' := (.object "java/lang/Object")) (by decide) (by decide)))).other W42 (Or.inr (slot_ne (a0 := a0) (C := "gatherwick/maps/RedBlackTree$Node") (Or.inl (own_w hw 139 rfl)) (Or.inl (own_w hw 137 rfl)) (by decide) (t := (.object "gatherwick/maps/RedBlackTree$Node")) (t' := (.object "java/lang/Object")) (by decide) (by decide))))
  have f44 := (f41.wr W42)
  obtain ⟨T45, h45, X45, e45, W45, st45⟩ := putF X42 hx hZ hown (host := "") (Or.inl (own_w hw 138 rfl)) Via.refl e42 f43 f44 (Or.inl (own_w hw 139 rfl)) (own_w hw 119 rfl) (ty := (.object "gatherwick/maps/RedBlackTree$Node")) (by decide) (by rcases ref_cases hr_vq with q | ⟨_, q⟩ <;> rw [q] <;> rfl) (by rcases ref_cases hr_vq with q | ⟨_, q⟩ <;> rw [q] <;> rfl) (g := (mkF m 21 #[.val (.ref an), .val (.ref ak), .val (.ref av), .val vq] [vq, (.ref an)])) rfl rfl (hb hby d23_21)
  refine Go.step st45 ?_
  have Fw45 := f43.same W45
  have N45 := Fr.snoc X45 N42 g0
  have Z45 : n0 ≤ h45.size := Nat.le_trans Z42 (Keep.of_wr W45).1
  have KK45 := KK42.wr W45 (Or.inl (List.mem_of_getElem? (i := 0) rfl))
  show Go _ _ _ _ _ _ _ T45 (mkF m 24 #[.val (.ref an), .val (.ref ak), .val (.ref av), .val vq] [])
  have f46 := ((Fw39.other W42 (Or.inr (slot_ne (a0 := a0) (C := "gatherwick/maps/RedBlackTree$Node") (Or.inr (own_w hw 135 rfl)) (Or.inl (own_w hw 137 rfl)) (by decide) (t := (.object "java/lang/Object")) (t' := (.object "java/lang/Object")) (by decide) (by decide)))).other W45 (Or.inr (slot_ne (a0 := a0) (C := "gatherwick/maps/RedBlackTree$Node") (Or.inr (own_w hw 135 rfl)) (Or.inl (own_w hw 139 rfl)) (by decide) (t := (.object "java/lang/Object")) (t' := (.object "gatherwick/maps/RedBlackTree$Node")) (by decide) (by decide))))
  have f47 := (Fw42.other W45 (Or.inr (slot_ne (a0 := a0) (C := "gatherwick/maps/RedBlackTree$Node") (Or.inl (own_w hw 137 rfl)) (Or.inl (own_w hw 139 rfl)) (by decide) (t := (.object "java/lang/Object")) (t' := (.object "gatherwick/maps/RedBlackTree$Node")) (by decide) (by decide))))
  have f48 := ((((a_left.other W36 (Or.inr (slot_ne (a0 := a0) (C := "gatherwick/maps/RedBlackTree$Node") (Or.inl (own_w hw 179 rfl)) (Or.inl (own_w hw 133 rfl)) (by decide) (t := (.object "gatherwick/maps/RedBlackTree$Node")) (t' := .boolean) (by decide) (by decide)))).other W39 (Or.inr (slot_ne (a0 := a0) (C := "gatherwick/maps/RedBlackTree$Node") (Or.inl (own_w hw 179 rfl)) (Or.inr (own_w hw 135 rfl)) (by decide) (t := (.object "gatherwick/maps/RedBlackTree$Node")) (t' := (.object "java/lang/Object")) (by decide) (by decide)))).other W42 (Or.inr (slot_ne (a0 := a0) (C := "gatherwick/maps/RedBlackTree$Node") (Or.inl (own_w hw 179 rfl)) (Or.inl (own_w hw 137 rfl)) (by decide) (t := (.object "gatherwick/maps/RedBlackTree$Node")) (t' := (.object "java/lang/Object")) (by decide) (by decide)))).other W45 (Or.inr (slot_ne (a0 := a0) (C := "gatherwick/maps/RedBlackTree$Node") (Or.inl (own_w hw 179 rfl)) (Or.inl (own_w hw 139 rfl)) (by decide) (t := (.object "gatherwick/maps/RedBlackTree$Node")) (t' := (.object "gatherwick/maps/RedBlackTree$Node")) (by decide) (by decide))))
  have f49 := ((((a_right.other W36 (Or.inr (slot_ne (a0 := a0) (C := "gatherwick/maps/RedBlackTree$Node") (Or.inl (own_w hw 176 rfl)) (Or.inl (own_w hw 133 rfl)) (by decide) (t := (.object "gatherwick/maps/RedBlackTree$Node")) (t' := .boolean) (by decide) (by decide)))).other W39 (Or.inr (slot_ne (a0 := a0) (C := "gatherwick/maps/RedBlackTree$Node") (Or.inl (own_w hw 176 rfl)) (Or.inr (own_w hw 135 rfl)) (by decide) (t := (.object "gatherwick/maps/RedBlackTree$Node")) (t' := (.object "java/lang/Object")) (by decide) (by decide)))).other W42 (Or.inr (slot_ne (a0 := a0) (C := "gatherwick/maps/RedBlackTree$Node") (Or.inl (own_w hw 176 rfl)) (Or.inl (own_w hw 137 rfl)) (by decide) (t := (.object "gatherwick/maps/RedBlackTree$Node")) (t' := (.object "java/lang/Object")) (by decide) (by decide)))).other W45 (Or.inr (slot_ne (a0 := a0) (C := "gatherwick/maps/RedBlackTree$Node") (Or.inl (own_w hw 176 rfl)) (Or.inl (own_w hw 139 rfl)) (by decide) (t := (.object "gatherwick/maps/RedBlackTree$Node")) (t' := (.object "gatherwick/maps/RedBlackTree$Node")) (by decide) (by decide))))
  have f50 := (((Fw36.other W39 (Or.inr (slot_ne (a0 := a0) (C := "gatherwick/maps/RedBlackTree$Node") (Or.inl (own_w hw 133 rfl)) (Or.inr (own_w hw 135 rfl)) (by decide) (t := .boolean) (t' := (.object "java/lang/Object")) (by decide) (by decide)))).other W42 (Or.inr (slot_ne (a0 := a0) (C := "gatherwick/maps/RedBlackTree$Node") (Or.inl (own_w hw 133 rfl)) (Or.inl (own_w hw 137 rfl)) (by decide) (t := .boolean) (t' := (.object "java/lang/Object")) (by decide) (by decide)))).other W45 (Or.inr (slot_ne (a0 := a0) (C := "gatherwick/maps/RedBlackTree$Node") (Or.inl (own_w hw 133 rfl)) (Or.inl (own_w hw 139 rfl)) (by decide) (t := .boolean) (t' := (.object "gatherwick/maps/RedBlackTree$Node")) (by decide) (by decide))))
  exact Go.ret0 X45 hx hret hlk (hb hby d23_24) e45 (by decide) (by decide) ⟨rfl, N45, KK45, f46, f47, f48, f49, Fw45, f50⟩
theorem d5_0 : decode prog_46_method_9_code 0 = .ok (.aload_n 0, 1) := by decide +kernel
theorem d5_1 : decode prog_46_method_9_code 1 = .ok (.getfield 105, 3) := by decide +kernel
theorem d5_4 : decode prog_46_method_9_code 4 = .ok (.ireturn, 1) := by decide +kernel
theorem ef_rmSz (m : MethodId) (am : Addr) : entryFrame m #[(.ref am)] 1 = mkF m 0 #[.val (.ref am)] [] := by first | (simp [entryFrame, mkF, argsToLocals, Value.category]; done) | rfl
def Q_rmSz (Z : State) (am : Addr) (sz : Int32) (h0 : Heap) (n0 : Nat) (v : Option Value) (h : Heap) (L : List Loc) : Prop := (v = some (.int sz)) ∧ (Fr n0 L) ∧ (h = h0)
theorem rmSz (l : Launch) (Z : State) (a0 : Array Value) (hw : ∀ d ∈ tables_1, d.before a0 Z = true) (ws : List Jvm.Cond) (am : Addr) (sz : Int32) (h0 : Heap) (n0 : Nat) (Z0 : n0 ≤ h0.size) (F0 : Fld Z h0 am "gatherwick/maps/GwTreeMap" "size" "I" (.int sz)) :
    MetFree l (⟨"gatherwick/maps/GwTreeMap", "size", "()I"⟩ : MethodName) (head1 (Jvm.Cond.code (⟨"gatherwick/maps/GwTreeMap", "size", "()I"⟩ : MethodName) prog_46_method_9_code 1 (some .int) :: ws) ({ frames := 0, cells := 0, slots := 0, locals := 0 } : Room)) (fun aA U => aA = #[(.ref am)] ∧ Z.Warmed39 U.vm ∧ U.heap = h0) (fun _ _ _ _ _ => True) (fun _ U o U' => ∃ v L, o = .returned v ∧ Q_rmSz Z am sz h0 n0 v U'.heap L ∧ FrameEnd U o U' L ({ frames := 0, cells := 0, slots := 0, locals := 0 } : Room).cells ({ frames := 0, cells := 0, slots := 0, locals := 0 } : Room).slots) := by
  refine MetFree.of_bodySF (plainFor_of_name pn_gatherwick_maps_GwTreeMap) hisR ?_
  intro p e s m args below meth c s₁ Bd hml0 hP hK
  obtain ⟨rfl, hZ, hh⟩ := hP
  have hx := Bd.exec
  have hby := Bd.bytes
  have hml : c.maxLocals = 1 := hml0
  have hown : s.vm.findClass "gatherwick/maps/GwTreeMap" = some m.cls := findClass_of_methodNamed Bd.named
  have hnm := (name_of_methodNamed Bd.named Bd.method).1
  have hret := Bd.returns
  have hlk : meth.locks = false := BodyLoose.notSynchronized Bd
  have X0 : Stand p l e ({ frames := 0, cells := 0, slots := 0, locals := 0 } : Room) s m #[(.ref am)] below meth c s₁ [] 0 0 := Stand.of_body Bd
  have e0 : s₁.heap = h0 := by rw [← hh, Bd.state]; rfl
  have N0 := Fr.nil n0
  suffices hgo : Go p e below s ({ frames := 0, cells := 0, slots := 0, locals := 0 } : Room).cells ({ frames := 0, cells := 0, slots := 0, locals := 0 } : Room).slots (Q_rmSz Z am sz h0 n0) s₁ (mkF m 0 #[.val (.ref am)] []) from hgo.enter (ef_rmSz m am)
  refine Go.step (fun _ k => XS.aloadN X0.here hx rfl (hb hby d5_0) rfl rfl k) ?_
  obtain ⟨T51, X51, e51, st51⟩ := getF X0 hx hZ hown (host := "") (Or.inl (own_w hw 21 rfl)) Via.refl e0 F0 (g := (mkF m 1 #[.val (.ref am)] [(.ref am)])) rfl rfl (hb hby d5_1)
  refine Go.step st51 ?_
  show Go _ _ _ _ _ _ _ T51 (mkF m 4 #[.val (.ref am)] [(.int sz)])
  exact Go.retI X51 hx hret hlk (hb hby d5_4) e51 (by decide) (by decide) ⟨rfl, N0, rfl⟩
theorem d22_0 : decode prog_46_method_93_code 0 = .ok (.iload_n 0, 1) := by decide +kernel
theorem d22_1 : decode prog_46_method_93_code 1 = .ok (.ldc_w 477, 3) := by decide +kernel
theorem d22_4 : decode prog_46_method_93_code 4 = .ok (.if_icmp .ne 14, 3) := by decide +kernel
theorem d22_18 : decode prog_46_method_93_code 18 = .ok (.return_, 1) := by decide +kernel
theorem ef_rmCr (m : MethodId) (sz : Int32) : entryFrame m #[(.int sz)] 1 = mkF m 0 #[.val (.int sz)] [] := by first | (simp [entryFrame, mkF, argsToLocals, Value.category]; done) | rfl
def Q_rmCr (Z : State) (sz : Int32) (h0 : Heap) (n0 : Nat) (v : Option Value) (h : Heap) (L : List Loc) : Prop := (v = none) ∧ (Fr n0 L) ∧ (h = h0)
theorem rmCr (l : Launch) (Z : State) (a0 : Array Value) (hw : ∀ d ∈ tables_1, d.before a0 Z = true) (ws : List Jvm.Cond) (sz : Int32) (h0 : Heap) (n0 : Nat) (Z0 : n0 ≤ h0.size) (hz : ¬ (sz = (2147483639 : Int32))) :
    MetFree l (⟨"gatherwick/maps/GwTreeMap", "checkRoom", "(I)V"⟩ : MethodName) (head1 (Jvm.Cond.code (⟨"gatherwick/maps/GwTreeMap", "checkRoom", "(I)V"⟩ : MethodName) prog_46_method_93_code 1 none :: ws) ({ frames := 0, cells := 0, slots := 0, locals := 0 } : Room)) (fun aA U => aA = #[(.int sz)] ∧ Z.Warmed39 U.vm ∧ U.heap = h0) (fun _ _ _ _ _ => True) (fun _ U o U' => ∃ v L, o = .returned v ∧ Q_rmCr Z sz h0 n0 v U'.heap L ∧ FrameEnd U o U' L ({ frames := 0, cells := 0, slots := 0, locals := 0 } : Room).cells ({ frames := 0, cells := 0, slots := 0, locals := 0 } : Room).slots) := by
  refine MetFree.of_bodySF (plainFor_of_name pn_gatherwick_maps_GwTreeMap) hisR ?_
  intro p e s m args below meth c s₁ Bd hml0 hP hK
  obtain ⟨rfl, hZ, hh⟩ := hP
  have hx := Bd.exec
  have hby := Bd.bytes
  have hml : c.maxLocals = 1 := hml0
  have hown : s.vm.findClass "gatherwick/maps/GwTreeMap" = some m.cls := findClass_of_methodNamed Bd.named
  have hnm := (name_of_methodNamed Bd.named Bd.method).1
  have hret := Bd.returns
  have hlk : meth.locks = false := BodyLoose.notSynchronized Bd
  have X0 : Stand p l e ({ frames := 0, cells := 0, slots := 0, locals := 0 } : Room) s m #[(.int sz)] below meth c s₁ [] 0 0 := Stand.of_body Bd
  have e0 : s₁.heap = h0 := by rw [← hh, Bd.state]; rfl
  have N0 := Fr.nil n0
  suffices hgo : Go p e below s ({ frames := 0, cells := 0, slots := 0, locals := 0 } : Room).cells ({ frames := 0, cells := 0, slots := 0, locals := 0 } : Room).slots (Q_rmCr Z sz h0 n0) s₁ (mkF m 0 #[.val (.int sz)] []) from hgo.enter (ef_rmCr m sz)
  refine Go.step (fun _ k => XS.iloadN X0.here hx rfl (hb hby d22_0) rfl k) ?_
  refine Go.step (X0.ldcwInt hx hown (mvT hZ (own_w hw 117 rfl)) (g := (mkF m 1 #[.val (.int sz)] [(.int sz)])) rfl (hb hby d22_1)) ?_
  show Go _ _ _ _ _ _ _ s₁ (mkF m 4 #[.val (.int sz)] [(.int (2147483639 : Int32)), (.int sz)])
  have hc4_52 : ¬ (sz = (2147483639 : Int32)) := hz
  refine Go.step (fun _ k => XS.icmpYes X0.here hx rfl (pc0 := 4) (pc' := 18) rfl (hb hby d22_4) rfl (feq hc4_52).2 (by decide) (by decide) k) ?_
  show Go _ _ _ _ _ _ _ s₁ (mkF m 18 #[.val (.int sz)] [])
  exact Go.ret0 X0 hx hret hlk (hb hby d22_18) e0 (by decide) (by decide) ⟨rfl, N0, rfl⟩
theorem d4_0 : decode prog_46_method_22_code 0 = .ok (.aload_n 0, 1) := by decide +kernel
theorem d4_1 : decode prog_46_method_22_code 1 = .ok (.getfield 105, 3) := by decide +kernel
theorem d4_4 : decode prog_46_method_22_code 4 = .ok (.ifCond .le 23, 3) := by decide +kernel
theorem d4_7 : decode prog_46_method_22_code 7 = .ok (.aload_n 0, 1) := by decide +kernel
theorem d4_8 : decode prog_46_method_22_code 8 = .ok (.aconst_null, 1) := by decide +kernel
theorem d4_9 : decode prog_46_method_22_code 9 = .ok (.putfield 112, 3) := by decide +kernel
theorem d4_12 : decode prog_46_method_22_code 12 = .ok (.aload_n 0, 1) := by decide +kernel
theorem d4_13 : decode prog_46_method_22_code 13 = .ok (.iconst 0, 1) := by decide +kernel
theorem d4_14 : decode prog_46_method_22_code 14 = .ok (.putfield 105, 3) := by decide +kernel
theorem d4_17 : decode prog_46_method_22_code 17 = .ok (.aload_n 0, 1) := by decide +kernel
theorem d4_18 : decode prog_46_method_22_code 18 = .ok (.dup, 1) := by decide +kernel
theorem d4_19 : decode prog_46_method_22_code 19 = .ok (.getfield 160, 3) := by decide +kernel
theorem d4_22 : decode prog_46_method_22_code 22 = .ok (.iconst 1, 1) := by decide +kernel
theorem d4_23 : decode prog_46_method_22_code 23 = .ok (.iadd, 1) := by decide +kernel
theorem d4_24 : decode prog_46_method_22_code 24 = .ok (.putfield 160, 3) := by decide +kernel
theorem d4_27 : decode prog_46_method_22_code 27 = .ok (.return_, 1) := by decide +kernel
theorem ef_rmCl (m : MethodId) (am : Addr) : entryFrame m #[(.ref am)] 1 = mkF m 0 #[.val (.ref am)] [] := by first | (simp [entryFrame, mkF, argsToLocals, Value.category]; done) | rfl
def Q_rmCl (Z : State) (am : Addr) (vr : Value) (sz : Int32) (mc : Int32) (h0 : Heap) (n0 : Nat) (v : Option Value) (h : Heap) (L : List Loc) : Prop := ∃ mc2 : Int32, (v = none) ∧ (Fr n0 L) ∧ (Keep h0 h [am]) ∧ (Fld Z h am "gatherwick/maps/GwTreeMap" "comparator" "Ljava/util/Comparator;" .null) ∧ (Fld Z h am "gatherwick/maps/GwTreeMap" "root" "Lgatherwick/maps/RedBlackTree$Node;" .null) ∧ (Fld Z h am "gatherwick/maps/GwTreeMap" "size" "I" (.int (0 : Int32))) ∧ (Fld Z h am "gatherwick/maps/GwTreeMap" "modCount" "I" (.int mc2))
theorem rmCl (l : Launch) (Z : State) (a0 : Array Value) (hw : ∀ d ∈ tables_1, d.before a0 Z = true) (ws : List Jvm.Cond) (am : Addr) (vr : Value) (sz : Int32) (mc : Int32) (h0 : Heap) (n0 : Nat) (Z0 : n0 ≤ h0.size) (E0 : Exa Z h0 am "gatherwick/maps/GwTreeMap") (g0 : n0 ≤ am) (a_comparator : Fld Z h0 am "gatherwick/maps/GwTreeMap" "comparator" "Ljava/util/Comparator;" .null) (a_root : Fld Z h0 am "gatherwick/maps/GwTreeMap" "root" "Lgatherwick/maps/RedBlackTree$Node;" vr) (a_size : Fld Z h0 am "gatherwick/maps/GwTreeMap" "size" "I" (.int sz)) (a_modCount : Fld Z h0 am "gatherwick/maps/GwTreeMap" "modCount" "I" (.int mc)) (hsz : ¬ ((0 : Int32) < sz) → sz = 0 ∧ vr = .null) :
    MetFree l (⟨"gatherwick/maps/GwTreeMap", "clear", "()V"⟩ : MethodName) (head1 (Jvm.Cond.code (⟨"gatherwick/maps/GwTreeMap", "clear", "()V"⟩ : MethodName) prog_46_method_22_code 1 none :: ws) ({ frames := 0, cells := 0, slots := 0, locals := 0 } : Room)) (fun aA U => aA = #[(.ref am)] ∧ Z.Warmed39 U.vm ∧ U.heap = h0) (fun _ _ _ _ _ => True) (fun _ U o U' => ∃ v L, o = .returned v ∧ Q_rmCl Z am vr sz mc h0 n0 v U'.heap L ∧ FrameEnd U o U' L ({ frames := 0, cells := 0, slots := 0, locals := 0 } : Room).cells ({ frames := 0, cells := 0, slots := 0, locals := 0 } : Room).slots) := by
  refine MetFree.of_bodySF (plainFor_of_name pn_gatherwick_maps_GwTreeMap) hisR ?_
  intro p e s m args below meth c s₁ Bd hml0 hP hK
  obtain ⟨rfl, hZ, hh⟩ := hP
  have hx := Bd.exec
  have hby := Bd.bytes
  have hml : c.maxLocals = 1 := hml0
  have hown : s.vm.findClass "gatherwick/maps/GwTreeMap" = some m.cls := findClass_of_methodNamed Bd.named
  have hnm := (name_of_methodNamed Bd.named Bd.method).1
  have hret := Bd.returns
  have hlk : meth.locks = false := BodyLoose.notSynchronized Bd
  have X0 : Stand p l e ({ frames := 0, cells := 0, slots := 0, locals := 0 } : Room) s m #[(.ref am)] below meth c s₁ [] 0 0 := Stand.of_body Bd
  have e0 : s₁.heap = h0 := by rw [← hh, Bd.state]; rfl
  have N0 := Fr.nil n0
  suffices hgo : Go p e below s ({ frames := 0, cells := 0, slots := 0, locals := 0 } : Room).cells ({ frames := 0, cells := 0, slots := 0, locals := 0 } : Room).slots (Q_rmCl Z am vr sz mc h0 n0) s₁ (mkF m 0 #[.val (.ref am)] []) from hgo.enter (ef_rmCl m am)
  refine Go.step (fun _ k => XS.aloadN X0.here hx rfl (hb hby d4_0) rfl rfl k) ?_
  obtain ⟨T53, X53, e53, st53⟩ := getF X0 hx hZ hown (host := "") (Or.inl (own_w hw 21 rfl)) Via.refl e0 a_size (g := (mkF m 1 #[.val (.ref am)] [(.ref am)])) rfl rfl (hb hby d4_1)
  refine Go.step st53 ?_
  show Go _ _ _ _ _ _ _ T53 (mkF m 4 #[.val (.ref am)] [(.int sz)])
  by_cases hc4_54 : (0 : Int32) < sz
  · refine Go.step (fun _ k => XS.ifNo X53.here hx rfl (hb hby d4_4) rfl ((if0 _ _).trans (tlt hc4_54).2.2.2) k) ?_
    show Go _ _ _ _ _ _ _ T53 (mkF m 7 #[.val (.ref am)] [])
    refine Go.step (fun _ k => XS.aloadN X53.here hx rfl (hb hby d4_7) rfl rfl k) ?_
    refine Go.step (fun _ k => XS.aconstNull X53.here hx rfl (hb hby d4_8) k) ?_
    obtain ⟨T55, h55, X55, e55, W55, st55⟩ := putF X53 hx hZ hown (host := "") (Or.inl (own_w hw 52 rfl)) Via.refl e53 a_root E0 (Or.inl (own_w hw 53 rfl)) (own_w hw 1 rfl) (ty := (.object "gatherwick/maps/RedBlackTree$Node")) (by decide) rfl rfl (g := (mkF m 9 #[.val (.ref am)] [.null, (.ref am)])) rfl rfl (hb hby d4_9)
    refine Go.step st55 ?_
    have Fw55 := a_root.same W55
    have N55 := Fr.snoc X55 N0 g0
    have Z55 : n0 ≤ h55.size := Nat.le_trans Z0 (Keep.of_wr W55).1
    have KK55 := (Keep.refl h0 [am]).wr W55 (Or.inl (List.mem_of_getElem? (i := 0) rfl))
    show Go _ _ _ _ _ _ _ T55 (mkF m 12 #[.val (.ref am)] [])
    refine Go.step (fun _ k => XS.aloadN X55.here hx rfl (hb hby d4_12) rfl rfl k) ?_
    refine Go.step (fun _ k => XS.iconst X55.here hx rfl (hb hby d4_13) k) ?_
    have f56 := (a_size.other W55 (Or.inr (slot_ne (a0 := a0) (C := "gatherwick/maps/GwTreeMap") (Or.inl (own_w hw 22 rfl)) (Or.inl (own_w hw 53 rfl)) (by decide) (t := .int) (t' := (.object "gatherwick/maps/RedBlackTree$Node")) (by decide) (by decide))))
    have f57 := (E0.wr W55)
    obtain ⟨T58, h58, X58, e58, W58, st58⟩ := putF X55 hx hZ hown (host := "") (Or.inl (own_w hw 21 rfl)) Via.refl e55 f56 f57 (Or.inl (own_w hw 22 rfl)) (own_w hw 1 rfl) (ty := .int) (by decide) rfl rfl (g := (mkF m 14 #[.val (.ref am)] [(.int (0 : Int32)), (.ref am)])) rfl rfl (hb hby d4_14)
    refine Go.step st58 ?_
    have Fw58 := f56.same W58
    have N58 := Fr.snoc X58 N55 g0
    have Z58 : n0 ≤ h58.size := Nat.le_trans Z55 (Keep.of_wr W58).1
    have KK58 := KK55.wr W58 (Or.inl (List.mem_of_getElem? (i := 0) rfl))
    show Go _ _ _ _ _ _ _ T58 (mkF m 17 #[.val (.ref am)] [])
    refine Go.step (fun _ k => XS.aloadN X58.here hx rfl (hb hby d4_17) rfl rfl k) ?_
    refine Go.step (fun _ k => XS.dup X58.here hx rfl (hb hby d4_18) rfl rfl k) ?_
    have f59 := ((a_modCount.other W55 (Or.inr (slot_ne (a0 := a0) (C := "gatherwick/maps/GwTreeMap") (Or.inl (own_w hw 155 rfl)) (Or.inl (own_w hw 53 rfl)) (by decide) (t := .int) (t' := (.object "gatherwick/maps/RedBlackTree$Node")) (by decide) (by decide)))).other W58 (Or.inr (slot_ne (a0 := a0) (C := "gatherwick/maps/GwTreeMap") (Or.inl (own_w hw 155 rfl)) (Or.inl (own_w hw 22 rfl)) (by decide) (t := .int) (t' := .int) (by decide) (by decide))))
    obtain ⟨T60, X60, e60, st60⟩ := getF X58 hx hZ hown (host := "") (Or.inl (own_w hw 154 rfl)) Via.refl e58 f59 (g := (mkF m 19 #[.val (.ref am)] [(.ref am), (.ref am)])) rfl rfl (hb hby d4_19)
    refine Go.step st60 ?_
    show Go _ _ _ _ _ _ _ T60 (mkF m 22 #[.val (.ref am)] [(.int mc), (.ref am)])
    refine Go.step (fun _ k => XS.iconst X60.here hx rfl (hb hby d4_22) k) ?_
    refine Go.step (fun _ k => XS.iadd X60.here hx rfl (hb hby d4_23) rfl k) ?_
    have f61 := (f57.wr W58)
    obtain ⟨T62, h62, X62, e62, W62, st62⟩ := putF X60 hx hZ hown (host := "") (Or.inl (own_w hw 154 rfl)) Via.refl e60 f59 f61 (Or.inl (own_w hw 155 rfl)) (own_w hw 1 rfl) (ty := .int) (by decide) rfl rfl (g := (mkF m 24 #[.val (.ref am)] [(.int (mc + (1 : Int32))), (.ref am)])) rfl rfl (hb hby d4_24)
    refine Go.step st62 ?_
    have Fw62 := f59.same W62
    have N62 := Fr.snoc X62 N58 g0
    have Z62 : n0 ≤ h62.size := Nat.le_trans Z58 (Keep.of_wr W62).1
    have KK62 := KK58.wr W62 (Or.inl (List.mem_of_getElem? (i := 0) rfl))
    show Go _ _ _ _ _ _ _ T62 (mkF m 27 #[.val (.ref am)] [])
    have f63 := (((a_comparator.other W55 (Or.inr (slot_ne (a0 := a0) (C := "gatherwick/maps/GwTreeMap") (Or.inr (own_w hw 15 rfl)) (Or.inl (own_w hw 53 rfl)) (by decide) (t := (.object "java/util/Comparator")) (t' := (.object "gatherwick/maps/RedBlackTree$Node")) (by decide) (by decide)))).other W58 (Or.inr (slot_ne (a0 := a0) (C := "gatherwick/maps/GwTreeMap") (Or.inr (own_w hw 15 rfl)) (Or.inl (own_w hw 22 rfl)) (by decide) (t := (.object "java/util/Comparator")) (t' := .int) (by decide) (by decide)))).other W62 (Or.inr (slot_ne (a0 := a0) (C := "gatherwick/maps/GwTreeMap") (Or.inr (own_w hw 15 rfl)) (Or.inl (own_w hw 155 rfl)) (by decide) (t := (.object "java/util/Comparator")) (t' := .int) (by decide) (by decide))))
    have f64 := ((Fw55.other W58 (Or.inr (slot_ne (a0 := a0) (C := "gatherwick/maps/GwTreeMap") (Or.inl (own_w hw 53 rfl)) (Or.inl (own_w hw 22 rfl)) (by decide) (t := (.object "gatherwick/maps/RedBlackTree$Node")) (t' := .int) (by decide) (by decide)))).other W62 (Or.inr (slot_ne (a0 := a0) (C := "gatherwick/maps/GwTreeMap") (Or.inl (own_w hw 53 rfl)) (Or.inl (own_w hw 155 rfl)) (by decide) (t := (.object "gatherwick/maps/RedBlackTree$Node")) (t' := .int) (by decide) (by decide))))
    have f65 := (Fw58.other W62 (Or.inr (slot_ne (a0 := a0) (C := "gatherwick/maps/GwTreeMap") (Or.inl (own_w hw 22 rfl)) (Or.inl (own_w hw 155 rfl)) (by decide) (t := .int) (t' := .int) (by decide) (by decide))))
    exact Go.ret0 X62 hx hret hlk (hb hby d4_27) e62 (by decide) (by decide) ⟨(mc + (1 : Int32)), rfl, N62, KK62, f63, f64, f65, Fw62⟩
  · refine Go.step (fun _ k => XS.ifYes X53.here hx rfl (pc0 := 4) (pc' := 27) rfl (hb hby d4_4) rfl ((if0 _ _).trans (flt hc4_54).2.2.2) (by decide) (by decide) k) ?_
    show Go _ _ _ _ _ _ _ T53 (mkF m 27 #[.val (.ref am)] [])
    exact Go.ret0 X53 hx hret hlk (hb hby d4_27) e53 (by decide) (by decide) ⟨mc, rfl, N0, (Keep.refl h0 [am]), a_comparator, (by rw [← (hsz hc4_54).2]; exact a_root), (by rw [← (hsz hc4_54).1]; exact a_size), a_modCount⟩
theorem d10_0 : decode prog_46_method_86_code 0 = .ok (.aload_n 0, 1) := by decide +kernel
theorem d10_1 : decode prog_46_method_86_code 1 = .ok (.getfield 112, 3) := by decide +kernel
theorem d10_4 : decode prog_46_method_86_code 4 = .ok (.astore 4, 2) := by decide +kernel
theorem d10_6 : decode prog_46_method_86_code 6 = .ok (.aload 4, 2) := by decide +kernel
theorem d10_8 : decode prog_46_method_86_code 8 = .ok (.ifnonnull 16, 3) := by decide +kernel
theorem d10_11 : decode prog_46_method_86_code 11 = .ok (.iload_n 3, 1) := by decide +kernel
theorem d10_12 : decode prog_46_method_86_code 12 = .ok (.ifCond .eq 10, 3) := by decide +kernel
theorem d10_15 : decode prog_46_method_86_code 15 = .ok (.aload_n 0, 1) := by decide +kernel
theorem d10_16 : decode prog_46_method_86_code 16 = .ok (.aload_n 1, 1) := by decide +kernel
theorem d10_17 : decode prog_46_method_86_code 17 = .ok (.aload_n 1, 1) := by decide +kernel
theorem d10_18 : decode prog_46_method_86_code 18 = .ok (.invokevirtual 101, 3) := by decide +kernel
theorem d10_21 : decode prog_46_method_86_code 21 = .ok (.pop, 1) := by decide +kernel
theorem d10_22 : decode prog_46_method_86_code 22 = .ok (.aconst_null, 1) := by decide +kernel
theorem d10_23 : decode prog_46_method_86_code 23 = .ok (.areturn, 1) := by decide +kernel
theorem d10_24 : decode prog_46_method_86_code 24 = .ok (.aload_n 0, 1) := by decide +kernel
theorem d10_25 : decode prog_46_method_86_code 25 = .ok (.aload_n 1, 1) := by decide +kernel
theorem d10_26 : decode prog_46_method_86_code 26 = .ok (.aload 4, 2) := by decide +kernel
theorem d10_28 : decode prog_46_method_86_code 28 = .ok (.getfield 95, 3) := by decide +kernel
theorem d10_31 : decode prog_46_method_86_code 31 = .ok (.invokevirtual 101, 3) := by decide +kernel
theorem d10_34 : decode prog_46_method_86_code 34 = .ok (.istore 5, 2) := by decide +kernel
theorem d10_36 : decode prog_46_method_86_code 36 = .ok (.iload 5, 2) := by decide +kernel
theorem d10_38 : decode prog_46_method_86_code 38 = .ok (.ifCond .ne 16, 3) := by decide +kernel
theorem d10_41 : decode prog_46_method_86_code 41 = .ok (.aload_n 2, 1) := by decide +kernel
theorem d10_42 : decode prog_46_method_86_code 42 = .ok (.ifnull 9, 3) := by decide +kernel
theorem d10_45 : decode prog_46_method_86_code 45 = .ok (.aload_n 2, 1) := by decide +kernel
theorem d10_46 : decode prog_46_method_86_code 46 = .ok (.aload 4, 2) := by decide +kernel
theorem d10_48 : decode prog_46_method_86_code 48 = .ok (.putfield 394, 3) := by decide +kernel
theorem d10_51 : decode prog_46_method_86_code 51 = .ok (.aload 4, 2) := by decide +kernel
theorem d10_53 : decode prog_46_method_86_code 53 = .ok (.areturn, 1) := by decide +kernel
theorem d10_54 : decode prog_46_method_86_code 54 = .ok (.iload 5, 2) := by decide +kernel
theorem d10_56 : decode prog_46_method_86_code 56 = .ok (.ifCond .ge 11, 3) := by decide +kernel
theorem d10_59 : decode prog_46_method_86_code 59 = .ok (.aload 4, 2) := by decide +kernel
theorem d10_61 : decode prog_46_method_86_code 61 = .ok (.getfield 449, 3) := by decide +kernel
theorem d10_64 : decode prog_46_method_86_code 64 = .ok (.goto 8, 3) := by decide +kernel
theorem d10_67 : decode prog_46_method_86_code 67 = .ok (.aload 4, 2) := by decide +kernel
theorem d10_69 : decode prog_46_method_86_code 69 = .ok (.getfield 452, 3) := by decide +kernel
theorem d10_72 : decode prog_46_method_86_code 72 = .ok (.astore 6, 2) := by decide +kernel
theorem d10_74 : decode prog_46_method_86_code 74 = .ok (.aload 6, 2) := by decide +kernel
theorem d10_76 : decode prog_46_method_86_code 76 = .ok (.ifnonnull 29, 3) := by decide +kernel
theorem d10_79 : decode prog_46_method_86_code 79 = .ok (.aload_n 2, 1) := by decide +kernel
theorem d10_80 : decode prog_46_method_86_code 80 = .ok (.ifnull 23, 3) := by decide +kernel
theorem d10_83 : decode prog_46_method_86_code 83 = .ok (.aload_n 2, 1) := by decide +kernel
theorem d10_84 : decode prog_46_method_86_code 84 = .ok (.aload 4, 2) := by decide +kernel
theorem d10_86 : decode prog_46_method_86_code 86 = .ok (.putfield 455, 3) := by decide +kernel
theorem d10_89 : decode prog_46_method_86_code 89 = .ok (.aload_n 2, 1) := by decide +kernel
theorem d10_90 : decode prog_46_method_86_code 90 = .ok (.iload 5, 2) := by decide +kernel
theorem d10_92 : decode prog_46_method_86_code 92 = .ok (.ifCond .ge 7, 3) := by decide +kernel
theorem d10_95 : decode prog_46_method_86_code 95 = .ok (.iconst 1, 1) := by decide +kernel
theorem d10_96 : decode prog_46_method_86_code 96 = .ok (.goto 4, 3) := by decide +kernel
theorem d10_99 : decode prog_46_method_86_code 99 = .ok (.iconst 0, 1) := by decide +kernel
theorem d10_100 : decode prog_46_method_86_code 100 = .ok (.putfield 458, 3) := by decide +kernel
theorem d10_103 : decode prog_46_method_86_code 103 = .ok (.aconst_null, 1) := by decide +kernel
theorem d10_104 : decode prog_46_method_86_code 104 = .ok (.areturn, 1) := by decide +kernel
theorem d10_105 : decode prog_46_method_86_code 105 = .ok (.aload 6, 2) := by decide +kernel
theorem d10_107 : decode prog_46_method_86_code 107 = .ok (.astore 4, 2) := by decide +kernel
theorem d10_109 : decode prog_46_method_86_code 109 = .ok (.goto (-85), 3) := by decide +kernel
theorem pd__Ljava_lang_Object_Ljava_lang_Object__I : parseMethodDescriptor "(Ljava/lang/Object;Ljava/lang/Object;)I" = some ⟨[(.object "java/lang/Object"), (.object "java/lang/Object")], some .int⟩ := by decide +kernel
theorem ef_rmSe (m : MethodId) (am : Addr) (ak : Addr) (ap : Addr) : entryFrame m #[(.ref am), (.ref ak), (.ref ap), (.int (1 : Int32))] 7 = mkF m 0 #[.val (.ref am), .val (.ref ak), .val (.ref ap), .val (.int (1 : Int32)), .unset, .unset, .unset] [] := by first | (simp [entryFrame, mkF, argsToLocals, Value.category]; done) | rfl
def Q_rmSe (Z : State) (am : Addr) (ak : Addr) (ap : Addr) (kv : Int32) (tr : List (Addr × Addr × Int32)) (vn : Value) (vp : Value) (vl : Int32) (h0 : Heap) (n0 : Nat) (v : Option Value) (h : Heap) (L : List Loc) : Prop := (v = some vn) ∧ (Fr n0 L) ∧ (Keep h0 h [ap]) ∧ (Fld Z h ap "gatherwick/maps/GwTreeMap$Place" "node" "Lgatherwick/maps/RedBlackTree$Node;" vn) ∧ (Fld Z h ap "gatherwick/maps/GwTreeMap$Place" "parent" "Lgatherwick/maps/RedBlackTree$Node;" vp) ∧ (Fld Z h ap "gatherwick/maps/GwTreeMap$Place" "left" "Z" (.int vl))
theorem rmSe (l : Launch) (Z : State) (a0 : Array Value) (hw : ∀ d ∈ tables_1, d.before a0 Z = true) (ws : List Jvm.Cond) (am : Addr) (ak : Addr) (ap : Addr) (kv : Int32) (tr : List (Addr × Addr × Int32)) (vn : Value) (vp : Value) (vl : Int32) (h0 : Heap) (n0 : Nat) (Z0 : n0 ≤ h0.size) (Em : Exa Z h0 am "gatherwick/maps/GwTreeMap") (Fc : Fld Z h0 am "gatherwick/maps/GwTreeMap" "comparator" "Ljava/util/Comparator;" .null) (Frt : Fld Z h0 am "gatherwick/maps/GwTreeMap" "root" "Lgatherwick/maps/RedBlackTree$Node;" (own_val tr)) (Ek : Exa Z h0 ak "java/lang/Integer") (Fk : Fld Z h0 ak "java/lang/Integer" "value" "I" (.int kv)) (HT : own_HT Z h0 kv tr) (Ep : Exa Z h0 ap "gatherwick/maps/GwTreeMap$Place") (gp : n0 ≤ ap) (Pn : Fld Z h0 ap "gatherwick/maps/GwTreeMap$Place" "node" "Lgatherwick/maps/RedBlackTree$Node;" .null) (Pp : Fld Z h0 ap "gatherwick/maps/GwTreeMap$Place" "parent" "Lgatherwick/maps/RedBlackTree$Node;" .null) (Pl : Fld Z h0 ap "gatherwick/maps/GwTreeMap$Place" "left" "Z" (.int (0 : Int32))) (hn : own_sn kv tr = vn) (hp : own_sp kv tr .null = vp) (hl : own_sl kv tr 0 = vl) :
    MetFree l (⟨"gatherwick/maps/GwTreeMap", "search", "(Ljava/lang/Object;Lgatherwick/maps/GwTreeMap$Place;Z)Lgatherwick/maps/RedBlackTree$Node;"⟩ : MethodName) (head1 (Jvm.Cond.code (⟨"gatherwick/maps/GwTreeMap", "search", "(Ljava/lang/Object;Lgatherwick/maps/GwTreeMap$Place;Z)Lgatherwick/maps/RedBlackTree$Node;"⟩ : MethodName) prog_46_method_86_code 7 (some (.object "gatherwick/maps/RedBlackTree$Node")) :: ws) ({ frames := 5, cells := 0, slots := 0, locals := 67 } : Room)) (fun aA U => aA = #[(.ref am), (.ref ak), (.ref ap), (.int (1 : Int32))] ∧ Z.Warmed39 U.vm ∧ U.heap = h0) (fun _ _ _ _ _ => True) (fun _ U o U' => ∃ v L, o = .returned v ∧ Q_rmSe Z am ak ap kv tr vn vp vl h0 n0 v U'.heap L ∧ FrameEnd U o U' L ({ frames := 5, cells := 0, slots := 0, locals := 67 } : Room).cells ({ frames := 5, cells := 0, slots := 0, locals := 67 } : Room).slots) := by
  refine MetFree.of_bodySF (plainFor_of_name pn_gatherwick_maps_GwTreeMap) hisR ?_
  intro p e s m args below meth c s₁ Bd hml0 hP hK
  obtain ⟨rfl, hZ, hh⟩ := hP
  have hx := Bd.exec
  have hby := Bd.bytes
  have hml : c.maxLocals = 7 := hml0
  have hown : s.vm.findClass "gatherwick/maps/GwTreeMap" = some m.cls := findClass_of_methodNamed Bd.named
  have hnm := (name_of_methodNamed Bd.named Bd.method).1
  have hret := Bd.returns
  have hlk : meth.locks = false := BodyLoose.notSynchronized Bd
  have X0 : Stand p l e ({ frames := 5, cells := 0, slots := 0, locals := 67 } : Room) s m #[(.ref am), (.ref ak), (.ref ap), (.int (1 : Int32))] below meth c s₁ [] 0 0 := Stand.of_body Bd
  have e0 : s₁.heap = h0 := by rw [← hh, Bd.state]; rfl
  have N0 := Fr.nil n0
  suffices hgo : Go p e below s ({ frames := 5, cells := 0, slots := 0, locals := 67 } : Room).cells ({ frames := 5, cells := 0, slots := 0, locals := 67 } : Room).slots (Q_rmSe Z am ak ap kv tr vn vp vl h0 n0) s₁ (mkF m 0 #[.val (.ref am), .val (.ref ak), .val (.ref ap), .val (.int (1 : Int32)), .unset, .unset, .unset] []) from hgo.enter (ef_rmSe m am ak ap)
  have LOOP : ∀ (tt : List (Addr × Addr × Int32)) (Tl : State) (Ll : List Loc) (s5 s6 : Slot), (s5 = .unset ∨ ∃ z : Int32, s5 = .val (.int z)) → (s6 = .unset ∨ ∃ z : Addr, s6 = .val (.ref z)) → tt ≠ [] → own_HT Z h0 kv tt → own_sn kv tt = vn → own_sp kv tt .null = vp → own_sl kv tt 0 = vl → Stand p l e ({ frames := 5, cells := 0, slots := 0, locals := 67 } : Room) s m #[(.ref am), (.ref ak), (.ref ap), (.int (1 : Int32))] below meth c Tl Ll 0 0 → Tl.heap = h0 → Fr n0 Ll → Go p e below s ({ frames := 5, cells := 0, slots := 0, locals := 67 } : Room).cells ({ frames := 5, cells := 0, slots := 0, locals := 67 } : Room).slots (Q_rmSe Z am ak ap kv tr vn vp vl h0 n0) Tl (mkF m 24 #[.val (.ref am), .val (.ref ak), .val (.ref ap), .val (.int (1 : Int32)), .val (own_val tt), s5, s6] []) := by
    intro tt
    induction tt with
    | nil => intro Tl Ll s5 s6 _ _ q; exact absurd rfl q
    | cons zz rr ih =>
      obtain ⟨ca, cx, ck⟩ := zz
      intro Tl Ll s5 s6 pl_s5 pl_s6 _ HT hn hp hl Xl el Nl
      obtain ⟨Eca, Fkx, Ecx, Fcx, Fcl, Fcr, HTr⟩ := HT
      show Go _ _ _ _ _ _ _ Tl (mkF m 24 #[.val (.ref am), .val (.ref ak), .val (.ref ap), .val (.int (1 : Int32)), .val (.ref ca), s5, s6] [])
      refine Go.step (fun _ k => XS.aloadN Xl.here hx rfl (hb hby d10_24) rfl rfl k) ?_
      refine Go.step (fun _ k => XS.aloadN Xl.here hx rfl (hb hby d10_25) rfl rfl k) ?_
      refine Go.step (fun _ k => XS.aload Xl.here hx rfl (hb hby d10_26) rfl rfl k) ?_
      obtain ⟨T66, X66, e66, st66⟩ := getF Xl hx hZ hown (host := "") (Or.inl (own_w hw 156 rfl)) Via.refl el Fkx (g := (mkF m 28 #[.val (.ref am), .val (.ref ak), .val (.ref ap), .val (.int (1 : Int32)), .val (.ref ca), s5, s6] [(.ref ca), (.ref ak), (.ref am)])) rfl rfl (hb hby d10_28)
      refine Go.step st66 ?_
      show Go _ _ _ _ _ _ _ T66 (mkF m 31 #[.val (.ref am), .val (.ref ak), .val (.ref ap), .val (.int (1 : Int32)), .val (.ref ca), s5, s6] [(.ref cx), (.ref ak), (.ref am)])
      obtain ⟨cq67, q67, q67'⟩ := Em.cell
      obtain ⟨_, _, ⟨T67, L67, k67, n67⟩, -, X67, ⟨Lc67, hQ67, l67, y67, z67⟩, st67⟩ := X66.privateBack hx (y := (⟨"gatherwick/maps/GwTreeMap", "compare", "(Ljava/lang/Object;Ljava/lang/Object;)I"⟩ : MethodName)) hown (mvT hZ (own_w hw 54 rfl)) (mvT hZ (own_w hw 55 rfl)) (own_selp (mvT hZ (own_w hw 1 rfl)) (Cond.privateMethod_at (mvP hZ (own_w hw 56 rfl) (args := #[]))) (mvT hZ (own_w hw 55 rfl)) (by decide)) (Cond.privateMethod_at (mvP hZ (own_w hw 56 rfl) (args := #[]))) (mvT hZ (own_w hw 57 rfl)) (by decide) (backOf (W := 0) (rmCe l Z a0 hw [] am ak cx kv ck h0 n0 Z0 Fc Ek Fk Ecx Fcx) hZ (own_w hw 57 rfl) (own_w hw 2 rfl) (by decide) (by decide)) (g := (mkF m 31 #[.val (.ref am), .val (.ref ak), .val (.ref ap), .val (.int (1 : Int32)), .val (.ref ca), s5, s6] [(.ref cx), (.ref ak), (.ref am)])) rfl (by rw [hml]; rfl) (Steps.refl _) (a := am) (by rw [e66]; exact q67) q67' (argsL := [(.ref ak), (.ref cx)]) (rest := []) (lenOf pd__Ljava_lang_Object_Ljava_lang_Object__I rfl) rfl (by show 2 * 0 + _ ≤ _; exact Nat.le_of_eq rfl) (hb hby d10_31) (fun _ _ => ⟨rfl, e66, (by decide : 0 + 0 ≤ _), (by decide : 0 + 0 ≤ _)⟩)
      dsimp only [Pt.U, Pt.locs, Pt.cells, Pt.slots] at X67 l67 y67 z67 st67 hQ67
      subst l67 y67 z67
      obtain ⟨h67, e67⟩ : ∃ h, T67.heap = h := ⟨_, rfl⟩
      rw [e67] at hQ67
      obtain ⟨rfl, Nq67, hs67⟩ := hQ67
      have N67 := Fr.app Nl Nq67
      rw [hs67] at e67
      refine Go.trans st67 ?_
      show Go _ _ _ _ _ _ _ T67 (mkF m 34 #[.val (.ref am), .val (.ref ak), .val (.ref ap), .val (.int (1 : Int32)), .val (.ref ca), s5, s6] [(.int (own_cmp kv ck))])
      refine Go.step (fun _ k => XS.istore X67.here hx rfl (hb hby d10_34) rfl (l' := #[.val (.ref am), .val (.ref ak), .val (.ref ap), .val (.int (1 : Int32)), .val (.ref ca), .val (.int (own_cmp kv ck)), s6]) (by rcases pl_s5 with rfl | ⟨_, rfl⟩ <;> rfl) k) ?_
      show Go _ _ _ _ _ _ _ T67 (mkF m 36 #[.val (.ref am), .val (.ref ak), .val (.ref ap), .val (.int (1 : Int32)), .val (.ref ca), .val (.int (own_cmp kv ck)), s6] [])
      refine Go.step (fun _ k => XS.iload X67.here hx rfl (hb hby d10_36) rfl k) ?_
      by_cases hc38_68 : (own_cmp kv ck) = (0 : Int32)
      · refine Go.step (fun _ k => XS.ifNo X67.here hx rfl (hb hby d10_38) rfl ((if0 _ _).trans (teq hc38_68).2) k) ?_
        show Go _ _ _ _ _ _ _ T67 (mkF m 41 #[.val (.ref am), .val (.ref ak), .val (.ref ap), .val (.int (1 : Int32)), .val (.ref ca), .val (.int (own_cmp kv ck)), s6] [])
        have q1 : kv = ck := own_cmp0 hc38_68
        have hnE : Value.ref ca = vn := (own_sn_eq q1).symm.trans hn
        have hpE : Value.null = vp := (own_sp_eq q1).symm.trans hp
        have hlE : (0 : Int32) = vl := (own_sl_eq q1).symm.trans hl
        refine Go.step (fun _ k => XS.aloadN X67.here hx rfl (hb hby d10_41) rfl rfl k) ?_
        refine Go.step (fun _ k => XS.ifnullNo X67.here hx rfl (hb hby d10_42) rfl k) ?_
        show Go _ _ _ _ _ _ _ T67 (mkF m 45 #[.val (.ref am), .val (.ref ak), .val (.ref ap), .val (.int (1 : Int32)), .val (.ref ca), .val (.int (own_cmp kv ck)), s6] [])
        refine Go.step (fun _ k => XS.aloadN X67.here hx rfl (hb hby d10_45) rfl rfl k) ?_
        refine Go.step (fun _ k => XS.aload X67.here hx rfl (hb hby d10_46) rfl rfl k) ?_
        obtain ⟨T69, h69, X69, e69, W69, st69⟩ := putF X67 hx hZ hown (host := "") (Or.inl (own_w hw 108 rfl)) Via.refl e67 Pn Ep (Or.inl (own_w hw 109 rfl)) (own_w hw 102 rfl) (ty := (.object "gatherwick/maps/RedBlackTree$Node")) (by decide) rfl rfl (g := (mkF m 48 #[.val (.ref am), .val (.ref ak), .val (.ref ap), .val (.int (1 : Int32)), .val (.ref ca), .val (.int (own_cmp kv ck)), s6] [(.ref ca), (.ref ap)])) rfl rfl (hb hby d10_48)
        refine Go.step st69 ?_
        have Fw69 := Pn.same W69
        have N69 := Fr.snoc X69 N67 gp
        have Z69 : n0 ≤ h69.size := Nat.le_trans Z0 (Keep.of_wr W69).1
        have KK69 := (Keep.refl h0 [ap]).wr W69 (Or.inl (List.mem_of_getElem? (i := 0) rfl))
        show Go _ _ _ _ _ _ _ T69 (mkF m 51 #[.val (.ref am), .val (.ref ak), .val (.ref ap), .val (.int (1 : Int32)), .val (.ref ca), .val (.int (own_cmp kv ck)), s6] [])
        refine Go.step (fun _ k => XS.aload X69.here hx rfl (hb hby d10_51) rfl rfl k) ?_
        have f70 := (Pp.other W69 (Or.inr (slot_ne (a0 := a0) (C := "gatherwick/maps/GwTreeMap$Place") (Or.inl (own_w hw 122 rfl)) (Or.inl (own_w hw 109 rfl)) (by decide) (t := (.object "gatherwick/maps/RedBlackTree$Node")) (t' := (.object "gatherwick/maps/RedBlackTree$Node")) (by decide) (by decide))))
        have f71 := (Pl.other W69 (Or.inr (slot_ne (a0 := a0) (C := "gatherwick/maps/GwTreeMap$Place") (Or.inl (own_w hw 141 rfl)) (Or.inl (own_w hw 109 rfl)) (by decide) (t := .boolean) (t' := (.object "gatherwick/maps/RedBlackTree$Node")) (by decide) (by decide))))
        exact Go.retA X69 hx hret hlk rfl rfl (hb hby d10_53) e69 (by decide) (by decide) ⟨(congrArg some hnE), N69, KK69, (by rw [← hnE]; exact Fw69), (by rw [← hpE]; exact f70), (by rw [← hlE]; exact f71)⟩
      · refine Go.step (fun _ k => XS.ifYes X67.here hx rfl (pc0 := 38) (pc' := 54) rfl (hb hby d10_38) rfl ((if0 _ _).trans (feq hc38_68).2) (by decide) (by decide) k) ?_
        show Go _ _ _ _ _ _ _ T67 (mkF m 54 #[.val (.ref am), .val (.ref ak), .val (.ref ap), .val (.int (1 : Int32)), .val (.ref ca), .val (.int (own_cmp kv ck)), s6] [])
        refine Go.step (fun _ k => XS.iload X67.here hx rfl (hb hby d10_54) rfl k) ?_
        by_cases hc56_72 : (own_cmp kv ck) < (0 : Int32)
        · refine Go.step (fun _ k => XS.ifNo X67.here hx rfl (hb hby d10_56) rfl ((if0 _ _).trans (tlt hc56_72).2.1) k) ?_
          show Go _ _ _ _ _ _ _ T67 (mkF m 59 #[.val (.ref am), .val (.ref ak), .val (.ref ap), .val (.int (1 : Int32)), .val (.ref ca), .val (.int (own_cmp kv ck)), s6] [])
          have q1 : kv < ck := own_cmpL hc56_72
          rcases rr with _ | ⟨⟨da, dx, dk⟩, r2⟩
          · have Fsd : Fld Z h0 ca "gatherwick/maps/RedBlackTree$Node" "left" "Lgatherwick/maps/RedBlackTree$Node;" .null := Fcl q1
            have hnE : Value.null = vn := (own_sn_lt q1).symm.trans hn
            have hpE : Value.ref ca = vp := (own_sp_lt q1).symm.trans hp
            have hlE : (1 : Int32) = vl := (own_sl_lt q1).symm.trans hl
            refine Go.step (fun _ k => XS.aload X67.here hx rfl (hb hby d10_59) rfl rfl k) ?_
            obtain ⟨T73, X73, e73, st73⟩ := getF X67 hx hZ hown (host := "") (Or.inl (own_w hw 178 rfl)) Via.refl e67 Fsd (g := (mkF m 61 #[.val (.ref am), .val (.ref ak), .val (.ref ap), .val (.int (1 : Int32)), .val (.ref ca), .val (.int (own_cmp kv ck)), s6] [(.ref ca)])) rfl rfl (hb hby d10_61)
            refine Go.step st73 ?_
            show Go _ _ _ _ _ _ _ T73 (mkF m 64 #[.val (.ref am), .val (.ref ak), .val (.ref ap), .val (.int (1 : Int32)), .val (.ref ca), .val (.int (own_cmp kv ck)), s6] [.null])
            refine Go.step (fun _ k => XS.goto X73.here hx rfl (pc0 := 64) (pc' := 72) rfl (hb hby d10_64) (by decide) (by decide) k) ?_
            show Go _ _ _ _ _ _ _ T73 (mkF m 72 #[.val (.ref am), .val (.ref ak), .val (.ref ap), .val (.int (1 : Int32)), .val (.ref ca), .val (.int (own_cmp kv ck)), s6] [.null])
            refine Go.step (fun _ k => XS.astore X73.here hx rfl (hb hby d10_72) rfl rfl (l' := #[.val (.ref am), .val (.ref ak), .val (.ref ap), .val (.int (1 : Int32)), .val (.ref ca), .val (.int (own_cmp kv ck)), .val .null]) (by rcases pl_s6 with rfl | ⟨_, rfl⟩ <;> rfl) k) ?_
            show Go _ _ _ _ _ _ _ T73 (mkF m 74 #[.val (.ref am), .val (.ref ak), .val (.ref ap), .val (.int (1 : Int32)), .val (.ref ca), .val (.int (own_cmp kv ck)), .val .null] [])
            refine Go.step (fun _ k => XS.aload X73.here hx rfl (hb hby d10_74) rfl rfl k) ?_
            refine Go.step (fun _ k => XS.ifnonnullNo X73.here hx rfl (hb hby d10_76) rfl k) ?_
            show Go _ _ _ _ _ _ _ T73 (mkF m 79 #[.val (.ref am), .val (.ref ak), .val (.ref ap), .val (.int (1 : Int32)), .val (.ref ca), .val (.int (own_cmp kv ck)), .val .null] [])
            refine Go.step (fun _ k => XS.aloadN X73.here hx rfl (hb hby d10_79) rfl rfl k) ?_
            refine Go.step (fun _ k => XS.ifnullNo X73.here hx rfl (hb hby d10_80) rfl k) ?_
            show Go _ _ _ _ _ _ _ T73 (mkF m 83 #[.val (.ref am), .val (.ref ak), .val (.ref ap), .val (.int (1 : Int32)), .val (.ref ca), .val (.int (own_cmp kv ck)), .val .null] [])
            refine Go.step (fun _ k => XS.aloadN X73.here hx rfl (hb hby d10_83) rfl rfl k) ?_
            refine Go.step (fun _ k => XS.aload X73.here hx rfl (hb hby d10_84) rfl rfl k) ?_
            obtain ⟨T74, h74, X74, e74, W74, st74⟩ := putF X73 hx hZ hown (host := "") (Or.inl (own_w hw 121 rfl)) Via.refl e73 Pp Ep (Or.inl (own_w hw 122 rfl)) (own_w hw 102 rfl) (ty := (.object "gatherwick/maps/RedBlackTree$Node")) (by decide) rfl rfl (g := (mkF m 86 #[.val (.ref am), .val (.ref ak), .val (.ref ap), .val (.int (1 : Int32)), .val (.ref ca), .val (.int (own_cmp kv ck)), .val .null] [(.ref ca), (.ref ap)])) rfl rfl (hb hby d10_86)
            refine Go.step st74 ?_
            have Fw74 := Pp.same W74
            have N74 := Fr.snoc X74 N67 gp
            have Z74 : n0 ≤ h74.size := Nat.le_trans Z0 (Keep.of_wr W74).1
            have KK74 := (Keep.refl h0 [ap]).wr W74 (Or.inl (List.mem_of_getElem? (i := 0) rfl))
            show Go _ _ _ _ _ _ _ T74 (mkF m 89 #[.val (.ref am), .val (.ref ak), .val (.ref ap), .val (.int (1 : Int32)), .val (.ref ca), .val (.int (own_cmp kv ck)), .val .null] [])
            refine Go.step (fun _ k => XS.aloadN X74.here hx rfl (hb hby d10_89) rfl rfl k) ?_
            refine Go.step (fun _ k => XS.iload X74.here hx rfl (hb hby d10_90) rfl k) ?_
            have hc92_75 : (own_cmp kv ck) < (0 : Int32) := hc56_72
            refine Go.step (fun _ k => XS.ifNo X74.here hx rfl (hb hby d10_92) rfl ((if0 _ _).trans (tlt hc92_75).2.1) k) ?_
            show Go _ _ _ _ _ _ _ T74 (mkF m 95 #[.val (.ref am), .val (.ref ak), .val (.ref ap), .val (.int (1 : Int32)), .val (.ref ca), .val (.int (own_cmp kv ck)), .val .null] [(.ref ap)])
            refine Go.step (fun _ k => XS.iconst X74.here hx rfl (hb hby d10_95) k) ?_
            refine Go.step (fun _ k => XS.goto X74.here hx rfl (pc0 := 96) (pc' := 100) rfl (hb hby d10_96) (by decide) (by decide) k) ?_
            show Go _ _ _ _ _ _ _ T74 (mkF m 100 #[.val (.ref am), .val (.ref ak), .val (.ref ap), .val (.int (1 : Int32)), .val (.ref ca), .val (.int (own_cmp kv ck)), .val .null] [(.int (1 : Int32)), (.ref ap)])
            have f76 := (Pl.other W74 (Or.inr (slot_ne (a0 := a0) (C := "gatherwick/maps/GwTreeMap$Place") (Or.inl (own_w hw 141 rfl)) (Or.inl (own_w hw 122 rfl)) (by decide) (t := .boolean) (t' := (.object "gatherwick/maps/RedBlackTree$Node")) (by decide) (by decide))))
            have f77 := (Ep.wr W74)
            obtain ⟨T78, h78, X78, e78, W78, st78⟩ := putFN X74 hx hZ hown (own_w hw 140 rfl) Via.refl e74 f76 f77 (Or.inl (own_w hw 141 rfl)) (own_w hw 102 rfl) (ty := .boolean) (v' := (.int (1 : Int32))) (by decide) rfl rfl (g := (mkF m 100 #[.val (.ref am), .val (.ref ak), .val (.ref ap), .val (.int (1 : Int32)), .val (.ref ca), .val (.int (own_cmp kv ck)), .val .null] [(.int (1 : Int32)), (.ref ap)])) rfl rfl (hb hby d10_100)
            refine Go.step st78 ?_
            have Fw78 := f76.same W78
            have N78 := Fr.snoc X78 N74 gp
            have Z78 : n0 ≤ h78.size := Nat.le_trans Z74 (Keep.of_wr W78).1
            have KK78 := KK74.wr W78 (Or.inl (List.mem_of_getElem? (i := 0) rfl))
            show Go _ _ _ _ _ _ _ T78 (mkF m 103 #[.val (.ref am), .val (.ref ak), .val (.ref ap), .val (.int (1 : Int32)), .val (.ref ca), .val (.int (own_cmp kv ck)), .val .null] [])
            refine Go.step (fun _ k => XS.aconstNull X78.here hx rfl (hb hby d10_103) k) ?_
            have f79 := ((Pn.other W74 (Or.inr (slot_ne (a0 := a0) (C := "gatherwick/maps/GwTreeMap$Place") (Or.inl (own_w hw 109 rfl)) (Or.inl (own_w hw 122 rfl)) (by decide) (t := (.object "gatherwick/maps/RedBlackTree$Node")) (t' := (.object "gatherwick/maps/RedBlackTree$Node")) (by decide) (by decide)))).other W78 (Or.inr (slot_ne (a0 := a0) (C := "gatherwick/maps/GwTreeMap$Place") (Or.inl (own_w hw 109 rfl)) (Or.inl (own_w hw 141 rfl)) (by decide) (t := (.object "gatherwick/maps/RedBlackTree$Node")) (t' := .boolean) (by decide) (by decide))))
            have f80 := (Fw74.other W78 (Or.inr (slot_ne (a0 := a0) (C := "gatherwick/maps/GwTreeMap$Place") (Or.inl (own_w hw 122 rfl)) (Or.inl (own_w hw 141 rfl)) (by decide) (t := (.object "gatherwick/maps/RedBlackTree$Node")) (t' := .boolean) (by decide) (by decide))))
            exact Go.retA X78 hx hret hlk rfl rfl (hb hby d10_104) e78 (by decide) (by decide) ⟨(congrArg some hnE), N78, KK78, (by rw [← hnE]; exact f79), (by rw [← hpE]; exact f80), (by rw [← hlE]; exact Fw78)⟩
          · have Fsd : Fld Z h0 ca "gatherwick/maps/RedBlackTree$Node" "left" "Lgatherwick/maps/RedBlackTree$Node;" (.ref da) := Fcl q1
            refine Go.step (fun _ k => XS.aload X67.here hx rfl (hb hby d10_59) rfl rfl k) ?_
            obtain ⟨T81, X81, e81, st81⟩ := getF X67 hx hZ hown (host := "") (Or.inl (own_w hw 178 rfl)) Via.refl e67 Fsd (g := (mkF m 61 #[.val (.ref am), .val (.ref ak), .val (.ref ap), .val (.int (1 : Int32)), .val (.ref ca), .val (.int (own_cmp kv ck)), s6] [(.ref ca)])) rfl rfl (hb hby d10_61)
            refine Go.step st81 ?_
            show Go _ _ _ _ _ _ _ T81 (mkF m 64 #[.val (.ref am), .val (.ref ak), .val (.ref ap), .val (.int (1 : Int32)), .val (.ref ca), .val (.int (own_cmp kv ck)), s6] [(.ref da)])
            refine Go.step (fun _ k => XS.goto X81.here hx rfl (pc0 := 64) (pc' := 72) rfl (hb hby d10_64) (by decide) (by decide) k) ?_
            show Go _ _ _ _ _ _ _ T81 (mkF m 72 #[.val (.ref am), .val (.ref ak), .val (.ref ap), .val (.int (1 : Int32)), .val (.ref ca), .val (.int (own_cmp kv ck)), s6] [(.ref da)])
            refine Go.step (fun _ k => XS.astore X81.here hx rfl (hb hby d10_72) rfl rfl (l' := #[.val (.ref am), .val (.ref ak), .val (.ref ap), .val (.int (1 : Int32)), .val (.ref ca), .val (.int (own_cmp kv ck)), .val (.ref da)]) (by rcases pl_s6 with rfl | ⟨_, rfl⟩ <;> rfl) k) ?_
            show Go _ _ _ _ _ _ _ T81 (mkF m 74 #[.val (.ref am), .val (.ref ak), .val (.ref ap), .val (.int (1 : Int32)), .val (.ref ca), .val (.int (own_cmp kv ck)), .val (.ref da)] [])
            refine Go.step (fun _ k => XS.aload X81.here hx rfl (hb hby d10_74) rfl rfl k) ?_
            refine Go.step (fun _ k => XS.ifnonnullYes X81.here hx rfl (pc0 := 76) (pc' := 105) rfl (hb hby d10_76) rfl (by decide) (by decide) k) ?_
            show Go _ _ _ _ _ _ _ T81 (mkF m 105 #[.val (.ref am), .val (.ref ak), .val (.ref ap), .val (.int (1 : Int32)), .val (.ref ca), .val (.int (own_cmp kv ck)), .val (.ref da)] [])
            refine Go.step (fun _ k => XS.aload X81.here hx rfl (hb hby d10_105) rfl rfl k) ?_
            refine Go.step (fun _ k => XS.astore X81.here hx rfl (hb hby d10_107) rfl rfl (l' := #[.val (.ref am), .val (.ref ak), .val (.ref ap), .val (.int (1 : Int32)), .val (.ref da), .val (.int (own_cmp kv ck)), .val (.ref da)]) rfl k) ?_
            show Go _ _ _ _ _ _ _ T81 (mkF m 109 #[.val (.ref am), .val (.ref ak), .val (.ref ap), .val (.int (1 : Int32)), .val (.ref da), .val (.int (own_cmp kv ck)), .val (.ref da)] [])
            refine Go.step (fun _ k => XS.goto X81.here hx rfl (pc0 := 109) (pc' := 24) rfl (hb hby d10_109) (by decide) (by decide) k) ?_
            show Go _ _ _ _ _ _ _ T81 (mkF m 24 #[.val (.ref am), .val (.ref ak), .val (.ref ap), .val (.int (1 : Int32)), .val (.ref da), .val (.int (own_cmp kv ck)), .val (.ref da)] [])
            exact ih T81 _ _ _ (Or.inr ⟨_, rfl⟩) (Or.inr ⟨_, rfl⟩) nofun HTr ((own_sn_lt q1).symm.trans hn) ((own_sp_lt q1).symm.trans hp) ((own_sl_lt q1).symm.trans hl) X81 e81 N67
        · refine Go.step (fun _ k => XS.ifYes X67.here hx rfl (pc0 := 56) (pc' := 67) rfl (hb hby d10_56) rfl ((if0 _ _).trans (flt hc56_72).2.1) (by decide) (by decide) k) ?_
          show Go _ _ _ _ _ _ _ T67 (mkF m 67 #[.val (.ref am), .val (.ref ak), .val (.ref ap), .val (.int (1 : Int32)), .val (.ref ca), .val (.int (own_cmp kv ck)), s6] [])
          have q1 : ck < kv := own_cmpG hc38_68 hc56_72
          rcases rr with _ | ⟨⟨da, dx, dk⟩, r2⟩
          · have Fsd : Fld Z h0 ca "gatherwick/maps/RedBlackTree$Node" "right" "Lgatherwick/maps/RedBlackTree$Node;" .null := Fcr q1
            have hnE : Value.null = vn := (own_sn_gt q1).symm.trans hn
            have hpE : Value.ref ca = vp := (own_sp_gt q1).symm.trans hp
            have hlE : (0 : Int32) = vl := (own_sl_gt q1).symm.trans hl
            refine Go.step (fun _ k => XS.aload X67.here hx rfl (hb hby d10_67) rfl rfl k) ?_
            obtain ⟨T82, X82, e82, st82⟩ := getF X67 hx hZ hown (host := "") (Or.inl (own_w hw 175 rfl)) Via.refl e67 Fsd (g := (mkF m 69 #[.val (.ref am), .val (.ref ak), .val (.ref ap), .val (.int (1 : Int32)), .val (.ref ca), .val (.int (own_cmp kv ck)), s6] [(.ref ca)])) rfl rfl (hb hby d10_69)
            refine Go.step st82 ?_
            show Go _ _ _ _ _ _ _ T82 (mkF m 72 #[.val (.ref am), .val (.ref ak), .val (.ref ap), .val (.int (1 : Int32)), .val (.ref ca), .val (.int (own_cmp kv ck)), s6] [.null])
            refine Go.step (fun _ k => XS.astore X82.here hx rfl (hb hby d10_72) rfl rfl (l' := #[.val (.ref am), .val (.ref ak), .val (.ref ap), .val (.int (1 : Int32)), .val (.ref ca), .val (.int (own_cmp kv ck)), .val .null]) (by rcases pl_s6 with rfl | ⟨_, rfl⟩ <;> rfl) k) ?_
            show Go _ _ _ _ _ _ _ T82 (mkF m 74 #[.val (.ref am), .val (.ref ak), .val (.ref ap), .val (.int (1 : Int32)), .val (.ref ca), .val (.int (own_cmp kv ck)), .val .null] [])
            refine Go.step (fun _ k => XS.aload X82.here hx rfl (hb hby d10_74) rfl rfl k) ?_
            refine Go.step (fun _ k => XS.ifnonnullNo X82.here hx rfl (hb hby d10_76) rfl k) ?_
            show Go _ _ _ _ _ _ _ T82 (mkF m 79 #[.val (.ref am), .val (.ref ak), .val (.ref ap), .val (.int (1 : Int32)), .val (.ref ca), .val (.int (own_cmp kv ck)), .val .null] [])
            refine Go.step (fun _ k => XS.aloadN X82.here hx rfl (hb hby d10_79) rfl rfl k) ?_
            refine Go.step (fun _ k => XS.ifnullNo X82.here hx rfl (hb hby d10_80) rfl k) ?_
            show Go _ _ _ _ _ _ _ T82 (mkF m 83 #[.val (.ref am), .val (.ref ak), .val (.ref ap), .val (.int (1 : Int32)), .val (.ref ca), .val (.int (own_cmp kv ck)), .val .null] [])
            refine Go.step (fun _ k => XS.aloadN X82.here hx rfl (hb hby d10_83) rfl rfl k) ?_
            refine Go.step (fun _ k => XS.aload X82.here hx rfl (hb hby d10_84) rfl rfl k) ?_
            obtain ⟨T83, h83, X83, e83, W83, st83⟩ := putF X82 hx hZ hown (host := "") (Or.inl (own_w hw 121 rfl)) Via.refl e82 Pp Ep (Or.inl (own_w hw 122 rfl)) (own_w hw 102 rfl) (ty := (.object "gatherwick/maps/RedBlackTree$Node")) (by decide) rfl rfl (g := (mkF m 86 #[.val (.ref am), .val (.ref ak), .val (.ref ap), .val (.int (1 : Int32)), .val (.ref ca), .val (.int (own_cmp kv ck)), .val .null] [(.ref ca), (.ref ap)])) rfl rfl (hb hby d10_86)
            refine Go.step st83 ?_
            have Fw83 := Pp.same W83
            have N83 := Fr.snoc X83 N67 gp
            have Z83 : n0 ≤ h83.size := Nat.le_trans Z0 (Keep.of_wr W83).1
            have KK83 := (Keep.refl h0 [ap]).wr W83 (Or.inl (List.mem_of_getElem? (i := 0) rfl))
            show Go _ _ _ _ _ _ _ T83 (mkF m 89 #[.val (.ref am), .val (.ref ak), .val (.ref ap), .val (.int (1 : Int32)), .val (.ref ca), .val (.int (own_cmp kv ck)), .val .null] [])
            refine Go.step (fun _ k => XS.aloadN X83.here hx rfl (hb hby d10_89) rfl rfl k) ?_
            refine Go.step (fun _ k => XS.iload X83.here hx rfl (hb hby d10_90) rfl k) ?_
            have hc92_84 : ¬ ((own_cmp kv ck) < (0 : Int32)) := hc56_72
            refine Go.step (fun _ k => XS.ifYes X83.here hx rfl (pc0 := 92) (pc' := 99) rfl (hb hby d10_92) rfl ((if0 _ _).trans (flt hc92_84).2.1) (by decide) (by decide) k) ?_
            show Go _ _ _ _ _ _ _ T83 (mkF m 99 #[.val (.ref am), .val (.ref ak), .val (.ref ap), .val (.int (1 : Int32)), .val (.ref ca), .val (.int (own_cmp kv ck)), .val .null] [(.ref ap)])
            refine Go.step (fun _ k => XS.iconst X83.here hx rfl (hb hby d10_99) k) ?_
            have f85 := (Pl.other W83 (Or.inr (slot_ne (a0 := a0) (C := "gatherwick/maps/GwTreeMap$Place") (Or.inl (own_w hw 141 rfl)) (Or.inl (own_w hw 122 rfl)) (by decide) (t := .boolean) (t' := (.object "gatherwick/maps/RedBlackTree$Node")) (by decide) (by decide))))
            have f86 := (Ep.wr W83)
            obtain ⟨T87, h87, X87, e87, W87, st87⟩ := putFN X83 hx hZ hown (own_w hw 140 rfl) Via.refl e83 f85 f86 (Or.inl (own_w hw 141 rfl)) (own_w hw 102 rfl) (ty := .boolean) (v' := (.int (0 : Int32))) (by decide) rfl rfl (g := (mkF m 100 #[.val (.ref am), .val (.ref ak), .val (.ref ap), .val (.int (1 : Int32)), .val (.ref ca), .val (.int (own_cmp kv ck)), .val .null] [(.int (0 : Int32)), (.ref ap)])) rfl rfl (hb hby d10_100)
            refine Go.step st87 ?_
            have Fw87 := f85.same W87
            have N87 := Fr.snoc X87 N83 gp
            have Z87 : n0 ≤ h87.size := Nat.le_trans Z83 (Keep.of_wr W87).1
            have KK87 := KK83.wr W87 (Or.inl (List.mem_of_getElem? (i := 0) rfl))
            show Go _ _ _ _ _ _ _ T87 (mkF m 103 #[.val (.ref am), .val (.ref ak), .val (.ref ap), .val (.int (1 : Int32)), .val (.ref ca), .val (.int (own_cmp kv ck)), .val .null] [])
            refine Go.step (fun _ k => XS.aconstNull X87.here hx rfl (hb hby d10_103) k) ?_
            have f88 := ((Pn.other W83 (Or.inr (slot_ne (a0 := a0) (C := "gatherwick/maps/GwTreeMap$Place") (Or.inl (own_w hw 109 rfl)) (Or.inl (own_w hw 122 rfl)) (by decide) (t := (.object "gatherwick/maps/RedBlackTree$Node")) (t' := (.object "gatherwick/maps/RedBlackTree$Node")) (by decide) (by decide)))).other W87 (Or.inr (slot_ne (a0 := a0) (C := "gatherwick/maps/GwTreeMap$Place") (Or.inl (own_w hw 109 rfl)) (Or.inl (own_w hw 141 rfl)) (by decide) (t := (.object "gatherwick/maps/RedBlackTree$Node")) (t' := .boolean) (by decide) (by decide))))
            have f89 := (Fw83.other W87 (Or.inr (slot_ne (a0 := a0) (C := "gatherwick/maps/GwTreeMap$Place") (Or.inl (own_w hw 122 rfl)) (Or.inl (own_w hw 141 rfl)) (by decide) (t := (.object "gatherwick/maps/RedBlackTree$Node")) (t' := .boolean) (by decide) (by decide))))
            exact Go.retA X87 hx hret hlk rfl rfl (hb hby d10_104) e87 (by decide) (by decide) ⟨(congrArg some hnE), N87, KK87, (by rw [← hnE]; exact f88), (by rw [← hpE]; exact f89), (by rw [← hlE]; exact Fw87)⟩
          · have Fsd : Fld Z h0 ca "gatherwick/maps/RedBlackTree$Node" "right" "Lgatherwick/maps/RedBlackTree$Node;" (.ref da) := Fcr q1
            refine Go.step (fun _ k => XS.aload X67.here hx rfl (hb hby d10_67) rfl rfl k) ?_
            obtain ⟨T90, X90, e90, st90⟩ := getF X67 hx hZ hown (host := "") (Or.inl (own_w hw 175 rfl)) Via.refl e67 Fsd (g := (mkF m 69 #[.val (.ref am), .val (.ref ak), .val (.ref ap), .val (.int (1 : Int32)), .val (.ref ca), .val (.int (own_cmp kv ck)), s6] [(.ref ca)])) rfl rfl (hb hby d10_69)
            refine Go.step st90 ?_
            show Go _ _ _ _ _ _ _ T90 (mkF m 72 #[.val (.ref am), .val (.ref ak), .val (.ref ap), .val (.int (1 : Int32)), .val (.ref ca), .val (.int (own_cmp kv ck)), s6] [(.ref da)])
            refine Go.step (fun _ k => XS.astore X90.here hx rfl (hb hby d10_72) rfl rfl (l' := #[.val (.ref am), .val (.ref ak), .val (.ref ap), .val (.int (1 : Int32)), .val (.ref ca), .val (.int (own_cmp kv ck)), .val (.ref da)]) (by rcases pl_s6 with rfl | ⟨_, rfl⟩ <;> rfl) k) ?_
            show Go _ _ _ _ _ _ _ T90 (mkF m 74 #[.val (.ref am), .val (.ref ak), .val (.ref ap), .val (.int (1 : Int32)), .val (.ref ca), .val (.int (own_cmp kv ck)), .val (.ref da)] [])
            refine Go.step (fun _ k => XS.aload X90.here hx rfl (hb hby d10_74) rfl rfl k) ?_
            refine Go.step (fun _ k => XS.ifnonnullYes X90.here hx rfl (pc0 := 76) (pc' := 105) rfl (hb hby d10_76) rfl (by decide) (by decide) k) ?_
            show Go _ _ _ _ _ _ _ T90 (mkF m 105 #[.val (.ref am), .val (.ref ak), .val (.ref ap), .val (.int (1 : Int32)), .val (.ref ca), .val (.int (own_cmp kv ck)), .val (.ref da)] [])
            refine Go.step (fun _ k => XS.aload X90.here hx rfl (hb hby d10_105) rfl rfl k) ?_
            refine Go.step (fun _ k => XS.astore X90.here hx rfl (hb hby d10_107) rfl rfl (l' := #[.val (.ref am), .val (.ref ak), .val (.ref ap), .val (.int (1 : Int32)), .val (.ref da), .val (.int (own_cmp kv ck)), .val (.ref da)]) rfl k) ?_
            show Go _ _ _ _ _ _ _ T90 (mkF m 109 #[.val (.ref am), .val (.ref ak), .val (.ref ap), .val (.int (1 : Int32)), .val (.ref da), .val (.int (own_cmp kv ck)), .val (.ref da)] [])
            refine Go.step (fun _ k => XS.goto X90.here hx rfl (pc0 := 109) (pc' := 24) rfl (hb hby d10_109) (by decide) (by decide) k) ?_
            show Go _ _ _ _ _ _ _ T90 (mkF m 24 #[.val (.ref am), .val (.ref ak), .val (.ref ap), .val (.int (1 : Int32)), .val (.ref da), .val (.int (own_cmp kv ck)), .val (.ref da)] [])
            exact ih T90 _ _ _ (Or.inr ⟨_, rfl⟩) (Or.inr ⟨_, rfl⟩) nofun HTr ((own_sn_gt q1).symm.trans hn) ((own_sp_gt q1).symm.trans hp) ((own_sl_gt q1).symm.trans hl) X90 e90 N67
  rcases tr with _ | ⟨⟨ca, cx, ck⟩, rr⟩
  · have Frn : Fld Z h0 am "gatherwick/maps/GwTreeMap" "root" "Lgatherwick/maps/RedBlackTree$Node;" .null := Frt
    have hnE : Value.null = vn := hn
    have hpE : Value.null = vp := hp
    have hlE : (0 : Int32) = vl := hl
    refine Go.step (fun _ k => XS.aloadN X0.here hx rfl (hb hby d10_0) rfl rfl k) ?_
    obtain ⟨T91, X91, e91, st91⟩ := getF X0 hx hZ hown (host := "") (Or.inl (own_w hw 52 rfl)) Via.refl e0 Frn (g := (mkF m 1 #[.val (.ref am), .val (.ref ak), .val (.ref ap), .val (.int (1 : Int32)), .unset, .unset, .unset] [(.ref am)])) rfl rfl (hb hby d10_1)
    refine Go.step st91 ?_
    show Go _ _ _ _ _ _ _ T91 (mkF m 4 #[.val (.ref am), .val (.ref ak), .val (.ref ap), .val (.int (1 : Int32)), .unset, .unset, .unset] [.null])
    refine Go.step (fun _ k => XS.astore X91.here hx rfl (hb hby d10_4) rfl rfl (l' := #[.val (.ref am), .val (.ref ak), .val (.ref ap), .val (.int (1 : Int32)), .val .null, .unset, .unset]) rfl k) ?_
    show Go _ _ _ _ _ _ _ T91 (mkF m 6 #[.val (.ref am), .val (.ref ak), .val (.ref ap), .val (.int (1 : Int32)), .val .null, .unset, .unset] [])
    refine Go.step (fun _ k => XS.aload X91.here hx rfl (hb hby d10_6) rfl rfl k) ?_
    refine Go.step (fun _ k => XS.ifnonnullNo X91.here hx rfl (hb hby d10_8) rfl k) ?_
    show Go _ _ _ _ _ _ _ T91 (mkF m 11 #[.val (.ref am), .val (.ref ak), .val (.ref ap), .val (.int (1 : Int32)), .val .null, .unset, .unset] [])
    refine Go.step (fun _ k => XS.iloadN X91.here hx rfl (hb hby d10_11) rfl k) ?_
    have hc12_92 : ¬ ((1 : Int32) = (0 : Int32)) := (by decide)
    refine Go.step (fun _ k => XS.ifNo X91.here hx rfl (hb hby d10_12) rfl ((if0 _ _).trans (feq hc12_92).1) k) ?_
    show Go _ _ _ _ _ _ _ T91 (mkF m 15 #[.val (.ref am), .val (.ref ak), .val (.ref ap), .val (.int (1 : Int32)), .val .null, .unset, .unset] [])
    refine Go.step (fun _ k => XS.aloadN X91.here hx rfl (hb hby d10_15) rfl rfl k) ?_
    refine Go.step (fun _ k => XS.aloadN X91.here hx rfl (hb hby d10_16) rfl rfl k) ?_
    refine Go.step (fun _ k => XS.aloadN X91.here hx rfl (hb hby d10_17) rfl rfl k) ?_
    obtain ⟨cq93, q93, q93'⟩ := Em.cell
    obtain ⟨_, _, ⟨T93, L93, k93, n93⟩, -, X93, ⟨Lc93, hQ93, l93, y93, z93⟩, st93⟩ := X91.privateBack hx (y := (⟨"gatherwick/maps/GwTreeMap", "compare", "(Ljava/lang/Object;Ljava/lang/Object;)I"⟩ : MethodName)) hown (mvT hZ (own_w hw 54 rfl)) (mvT hZ (own_w hw 55 rfl)) (own_selp (mvT hZ (own_w hw 1 rfl)) (Cond.privateMethod_at (mvP hZ (own_w hw 56 rfl) (args := #[]))) (mvT hZ (own_w hw 55 rfl)) (by decide)) (Cond.privateMethod_at (mvP hZ (own_w hw 56 rfl) (args := #[]))) (mvT hZ (own_w hw 57 rfl)) (by decide) (backOf (W := 0) (rmCe l Z a0 hw [] am ak ak kv kv h0 n0 Z0 Fc Ek Fk Ek Fk) hZ (own_w hw 57 rfl) (own_w hw 2 rfl) (by decide) (by decide)) (g := (mkF m 18 #[.val (.ref am), .val (.ref ak), .val (.ref ap), .val (.int (1 : Int32)), .val .null, .unset, .unset] [(.ref ak), (.ref ak), (.ref am)])) rfl (by rw [hml]; rfl) (Steps.refl _) (a := am) (by rw [e91]; exact q93) q93' (argsL := [(.ref ak), (.ref ak)]) (rest := []) (lenOf pd__Ljava_lang_Object_Ljava_lang_Object__I rfl) rfl (by show 2 * 0 + _ ≤ _; exact Nat.le_of_eq rfl) (hb hby d10_18) (fun _ _ => ⟨rfl, e91, (by decide : 0 + 0 ≤ _), (by decide : 0 + 0 ≤ _)⟩)
    dsimp only [Pt.U, Pt.locs, Pt.cells, Pt.slots] at X93 l93 y93 z93 st93 hQ93
    subst l93 y93 z93
    obtain ⟨h93, e93⟩ : ∃ h, T93.heap = h := ⟨_, rfl⟩
    rw [e93] at hQ93
    obtain ⟨rfl, Nq93, hs93⟩ := hQ93
    have N93 := Fr.app N0 Nq93
    rw [hs93] at e93
    refine Go.trans st93 ?_
    show Go _ _ _ _ _ _ _ T93 (mkF m 21 #[.val (.ref am), .val (.ref ak), .val (.ref ap), .val (.int (1 : Int32)), .val .null, .unset, .unset] [(.int (own_cmp kv kv))])
    refine Go.step (fun _ k => XS.pop X93.here hx rfl (hb hby d10_21) rfl rfl k) ?_
    show Go _ _ _ _ _ _ _ T93 (mkF m 22 #[.val (.ref am), .val (.ref ak), .val (.ref ap), .val (.int (1 : Int32)), .val .null, .unset, .unset] [])
    refine Go.step (fun _ k => XS.aconstNull X93.here hx rfl (hb hby d10_22) k) ?_
    exact Go.retA X93 hx hret hlk rfl rfl (hb hby d10_23) e93 (by decide) (by decide) ⟨(congrArg some hnE), N93, (Keep.refl h0 [ap]), (by rw [← hnE]; exact Pn), (by rw [← hpE]; exact Pp), (by rw [← hlE]; exact Pl)⟩
  · have Frn : Fld Z h0 am "gatherwick/maps/GwTreeMap" "root" "Lgatherwick/maps/RedBlackTree$Node;" (.ref ca) := Frt
    refine Go.step (fun _ k => XS.aloadN X0.here hx rfl (hb hby d10_0) rfl rfl k) ?_
    obtain ⟨T94, X94, e94, st94⟩ := getF X0 hx hZ hown (host := "") (Or.inl (own_w hw 52 rfl)) Via.refl e0 Frn (g := (mkF m 1 #[.val (.ref am), .val (.ref ak), .val (.ref ap), .val (.int (1 : Int32)), .unset, .unset, .unset] [(.ref am)])) rfl rfl (hb hby d10_1)
    refine Go.step st94 ?_
    show Go _ _ _ _ _ _ _ T94 (mkF m 4 #[.val (.ref am), .val (.ref ak), .val (.ref ap), .val (.int (1 : Int32)), .unset, .unset, .unset] [(.ref ca)])
    refine Go.step (fun _ k => XS.astore X94.here hx rfl (hb hby d10_4) rfl rfl (l' := #[.val (.ref am), .val (.ref ak), .val (.ref ap), .val (.int (1 : Int32)), .val (.ref ca), .unset, .unset]) rfl k) ?_
    show Go _ _ _ _ _ _ _ T94 (mkF m 6 #[.val (.ref am), .val (.ref ak), .val (.ref ap), .val (.int (1 : Int32)), .val (.ref ca), .unset, .unset] [])
    refine Go.step (fun _ k => XS.aload X94.here hx rfl (hb hby d10_6) rfl rfl k) ?_
    refine Go.step (fun _ k => XS.ifnonnullYes X94.here hx rfl (pc0 := 8) (pc' := 24) rfl (hb hby d10_8) rfl (by decide) (by decide) k) ?_
    show Go _ _ _ _ _ _ _ T94 (mkF m 24 #[.val (.ref am), .val (.ref ak), .val (.ref ap), .val (.int (1 : Int32)), .val (.ref ca), .unset, .unset] [])
    exact LOOP ((ca, cx, ck) :: rr) T94 _ _ _ (Or.inl rfl) (Or.inl rfl) nofun HT hn hp hl X94 e94 N0
theorem ef_rmSf (m : MethodId) (am : Addr) (ak : Addr) : entryFrame m #[(.ref am), (.ref ak), .null, (.int (1 : Int32))] 7 = mkF m 0 #[.val (.ref am), .val (.ref ak), .val .null, .val (.int (1 : Int32)), .unset, .unset, .unset] [] := by first | (simp [entryFrame, mkF, argsToLocals, Value.category]; done) | rfl
def Q_rmSf (Z : State) (am : Addr) (ak : Addr) (kv : Int32) (h0 : Heap) (n0 : Nat) (v : Option Value) (h : Heap) (L : List Loc) : Prop := (v = some .null) ∧ (Fr n0 L) ∧ (h = h0)
theorem rmSf (l : Launch) (Z : State) (a0 : Array Value) (hw : ∀ d ∈ tables_1, d.before a0 Z = true) (ws : List Jvm.Cond) (am : Addr) (ak : Addr) (kv : Int32) (h0 : Heap) (n0 : Nat) (Z0 : n0 ≤ h0.size) (Em : Exa Z h0 am "gatherwick/maps/GwTreeMap") (Fc : Fld Z h0 am "gatherwick/maps/GwTreeMap" "comparator" "Ljava/util/Comparator;" .null) (Frt : Fld Z h0 am "gatherwick/maps/GwTreeMap" "root" "Lgatherwick/maps/RedBlackTree$Node;" .null) (Ek : Exa Z h0 ak "java/lang/Integer") (Fk : Fld Z h0 ak "java/lang/Integer" "value" "I" (.int kv)) :
    MetFree l (⟨"gatherwick/maps/GwTreeMap", "search", "(Ljava/lang/Object;Lgatherwick/maps/GwTreeMap$Place;Z)Lgatherwick/maps/RedBlackTree$Node;"⟩ : MethodName) (head1 (Jvm.Cond.code (⟨"gatherwick/maps/GwTreeMap", "search", "(Ljava/lang/Object;Lgatherwick/maps/GwTreeMap$Place;Z)Lgatherwick/maps/RedBlackTree$Node;"⟩ : MethodName) prog_46_method_86_code 7 (some (.object "gatherwick/maps/RedBlackTree$Node")) :: ws) ({ frames := 5, cells := 0, slots := 0, locals := 67 } : Room)) (fun aA U => aA = #[(.ref am), (.ref ak), .null, (.int (1 : Int32))] ∧ Z.Warmed39 U.vm ∧ U.heap = h0) (fun _ _ _ _ _ => True) (fun _ U o U' => ∃ v L, o = .returned v ∧ Q_rmSf Z am ak kv h0 n0 v U'.heap L ∧ FrameEnd U o U' L ({ frames := 5, cells := 0, slots := 0, locals := 67 } : Room).cells ({ frames := 5, cells := 0, slots := 0, locals := 67 } : Room).slots) := by
  refine MetFree.of_bodySF (plainFor_of_name pn_gatherwick_maps_GwTreeMap) hisR ?_
  intro p e s m args below meth c s₁ Bd hml0 hP hK
  obtain ⟨rfl, hZ, hh⟩ := hP
  have hx := Bd.exec
  have hby := Bd.bytes
  have hml : c.maxLocals = 7 := hml0
  have hown : s.vm.findClass "gatherwick/maps/GwTreeMap" = some m.cls := findClass_of_methodNamed Bd.named
  have hnm := (name_of_methodNamed Bd.named Bd.method).1
  have hret := Bd.returns
  have hlk : meth.locks = false := BodyLoose.notSynchronized Bd
  have X0 : Stand p l e ({ frames := 5, cells := 0, slots := 0, locals := 67 } : Room) s m #[(.ref am), (.ref ak), .null, (.int (1 : Int32))] below meth c s₁ [] 0 0 := Stand.of_body Bd
  have e0 : s₁.heap = h0 := by rw [← hh, Bd.state]; rfl
  have N0 := Fr.nil n0
  suffices hgo : Go p e below s ({ frames := 5, cells := 0, slots := 0, locals := 67 } : Room).cells ({ frames := 5, cells := 0, slots := 0, locals := 67 } : Room).slots (Q_rmSf Z am ak kv h0 n0) s₁ (mkF m 0 #[.val (.ref am), .val (.ref ak), .val .null, .val (.int (1 : Int32)), .unset, .unset, .unset] []) from hgo.enter (ef_rmSf m am ak)
  refine Go.step (fun _ k => XS.aloadN X0.here hx rfl (hb hby d10_0) rfl rfl k) ?_
  obtain ⟨T95, X95, e95, st95⟩ := getF X0 hx hZ hown (host := "") (Or.inl (own_w hw 52 rfl)) Via.refl e0 Frt (g := (mkF m 1 #[.val (.ref am), .val (.ref ak), .val .null, .val (.int (1 : Int32)), .unset, .unset, .unset] [(.ref am)])) rfl rfl (hb hby d10_1)
  refine Go.step st95 ?_
  show Go _ _ _ _ _ _ _ T95 (mkF m 4 #[.val (.ref am), .val (.ref ak), .val .null, .val (.int (1 : Int32)), .unset, .unset, .unset] [.null])
  refine Go.step (fun _ k => XS.astore X95.here hx rfl (hb hby d10_4) rfl rfl (l' := #[.val (.ref am), .val (.ref ak), .val .null, .val (.int (1 : Int32)), .val .null, .unset, .unset]) rfl k) ?_
  show Go _ _ _ _ _ _ _ T95 (mkF m 6 #[.val (.ref am), .val (.ref ak), .val .null, .val (.int (1 : Int32)), .val .null, .unset, .unset] [])
  refine Go.step (fun _ k => XS.aload X95.here hx rfl (hb hby d10_6) rfl rfl k) ?_
  refine Go.step (fun _ k => XS.ifnonnullNo X95.here hx rfl (hb hby d10_8) rfl k) ?_
  show Go _ _ _ _ _ _ _ T95 (mkF m 11 #[.val (.ref am), .val (.ref ak), .val .null, .val (.int (1 : Int32)), .val .null, .unset, .unset] [])
  refine Go.step (fun _ k => XS.iloadN X95.here hx rfl (hb hby d10_11) rfl k) ?_
  have hc12_96 : ¬ ((1 : Int32) = (0 : Int32)) := (by decide)
  refine Go.step (fun _ k => XS.ifNo X95.here hx rfl (hb hby d10_12) rfl ((if0 _ _).trans (feq hc12_96).1) k) ?_
  show Go _ _ _ _ _ _ _ T95 (mkF m 15 #[.val (.ref am), .val (.ref ak), .val .null, .val (.int (1 : Int32)), .val .null, .unset, .unset] [])
  refine Go.step (fun _ k => XS.aloadN X95.here hx rfl (hb hby d10_15) rfl rfl k) ?_
  refine Go.step (fun _ k => XS.aloadN X95.here hx rfl (hb hby d10_16) rfl rfl k) ?_
  refine Go.step (fun _ k => XS.aloadN X95.here hx rfl (hb hby d10_17) rfl rfl k) ?_
  obtain ⟨cq97, q97, q97'⟩ := Em.cell
  obtain ⟨_, _, ⟨T97, L97, k97, n97⟩, -, X97, ⟨Lc97, hQ97, l97, y97, z97⟩, st97⟩ := X95.privateBack hx (y := (⟨"gatherwick/maps/GwTreeMap", "compare", "(Ljava/lang/Object;Ljava/lang/Object;)I"⟩ : MethodName)) hown (mvT hZ (own_w hw 54 rfl)) (mvT hZ (own_w hw 55 rfl)) (own_selp (mvT hZ (own_w hw 1 rfl)) (Cond.privateMethod_at (mvP hZ (own_w hw 56 rfl) (args := #[]))) (mvT hZ (own_w hw 55 rfl)) (by decide)) (Cond.privateMethod_at (mvP hZ (own_w hw 56 rfl) (args := #[]))) (mvT hZ (own_w hw 57 rfl)) (by decide) (backOf (W := 0) (rmCe l Z a0 hw [] am ak ak kv kv h0 n0 Z0 Fc Ek Fk Ek Fk) hZ (own_w hw 57 rfl) (own_w hw 2 rfl) (by decide) (by decide)) (g := (mkF m 18 #[.val (.ref am), .val (.ref ak), .val .null, .val (.int (1 : Int32)), .val .null, .unset, .unset] [(.ref ak), (.ref ak), (.ref am)])) rfl (by rw [hml]; rfl) (Steps.refl _) (a := am) (by rw [e95]; exact q97) q97' (argsL := [(.ref ak), (.ref ak)]) (rest := []) (lenOf pd__Ljava_lang_Object_Ljava_lang_Object__I rfl) rfl (by show 2 * 0 + _ ≤ _; exact Nat.le_of_eq rfl) (hb hby d10_18) (fun _ _ => ⟨rfl, e95, (by decide : 0 + 0 ≤ _), (by decide : 0 + 0 ≤ _)⟩)
  dsimp only [Pt.U, Pt.locs, Pt.cells, Pt.slots] at X97 l97 y97 z97 st97 hQ97
  subst l97 y97 z97
  obtain ⟨h97, e97⟩ : ∃ h, T97.heap = h := ⟨_, rfl⟩
  rw [e97] at hQ97
  obtain ⟨rfl, Nq97, hs97⟩ := hQ97
  have N97 := Fr.app N0 Nq97
  rw [hs97] at e97
  refine Go.trans st97 ?_
  show Go _ _ _ _ _ _ _ T97 (mkF m 21 #[.val (.ref am), .val (.ref ak), .val .null, .val (.int (1 : Int32)), .val .null, .unset, .unset] [(.int (own_cmp kv kv))])
  refine Go.step (fun _ k => XS.pop X97.here hx rfl (hb hby d10_21) rfl rfl k) ?_
  show Go _ _ _ _ _ _ _ T97 (mkF m 22 #[.val (.ref am), .val (.ref ak), .val .null, .val (.int (1 : Int32)), .val .null, .unset, .unset] [])
  refine Go.step (fun _ k => XS.aconstNull X97.here hx rfl (hb hby d10_22) k) ?_
  exact Go.retA X97 hx hret hlk rfl rfl (hb hby d10_23) e97 (by decide) (by decide) ⟨rfl, N97, rfl⟩
theorem ef_rmSg (m : MethodId) (am : Addr) (ak : Addr) : entryFrame m #[(.ref am), (.ref ak), .null, (.int (1 : Int32))] 7 = mkF m 0 #[.val (.ref am), .val (.ref ak), .val .null, .val (.int (1 : Int32)), .unset, .unset, .unset] [] := by first | (simp [entryFrame, mkF, argsToLocals, Value.category]; done) | rfl
def Q_rmSg (Z : State) (am : Addr) (ak : Addr) (kv : Int32) (n1 : Addr) (x1 : Addr) (h0 : Heap) (n0 : Nat) (v : Option Value) (h : Heap) (L : List Loc) : Prop := (v = some (.ref n1)) ∧ (Fr n0 L) ∧ (h = h0)
theorem rmSg (l : Launch) (Z : State) (a0 : Array Value) (hw : ∀ d ∈ tables_1, d.before a0 Z = true) (ws : List Jvm.Cond) (am : Addr) (ak : Addr) (kv : Int32) (n1 : Addr) (x1 : Addr) (h0 : Heap) (n0 : Nat) (Z0 : n0 ≤ h0.size) (Em : Exa Z h0 am "gatherwick/maps/GwTreeMap") (Fc : Fld Z h0 am "gatherwick/maps/GwTreeMap" "comparator" "Ljava/util/Comparator;" .null) (Frt : Fld Z h0 am "gatherwick/maps/GwTreeMap" "root" "Lgatherwick/maps/RedBlackTree$Node;" (.ref n1)) (Ek : Exa Z h0 ak "java/lang/Integer") (Fk : Fld Z h0 ak "java/lang/Integer" "value" "I" (.int kv)) (n1_key : Fld Z h0 n1 "gatherwick/maps/RedBlackTree$Node" "key" "Ljava/lang/Object;" (.ref x1)) (Ex1 : Exa Z h0 x1 "java/lang/Integer") (Fx1 : Fld Z h0 x1 "java/lang/Integer" "value" "I" (.int kv)) :
    MetFree l (⟨"gatherwick/maps/GwTreeMap", "search", "(Ljava/lang/Object;Lgatherwick/maps/GwTreeMap$Place;Z)Lgatherwick/maps/RedBlackTree$Node;"⟩ : MethodName) (head1 (Jvm.Cond.code (⟨"gatherwick/maps/GwTreeMap", "search", "(Ljava/lang/Object;Lgatherwick/maps/GwTreeMap$Place;Z)Lgatherwick/maps/RedBlackTree$Node;"⟩ : MethodName) prog_46_method_86_code 7 (some (.object "gatherwick/maps/RedBlackTree$Node")) :: ws) ({ frames := 5, cells := 0, slots := 0, locals := 67 } : Room)) (fun aA U => aA = #[(.ref am), (.ref ak), .null, (.int (1 : Int32))] ∧ Z.Warmed39 U.vm ∧ U.heap = h0) (fun _ _ _ _ _ => True) (fun _ U o U' => ∃ v L, o = .returned v ∧ Q_rmSg Z am ak kv n1 x1 h0 n0 v U'.heap L ∧ FrameEnd U o U' L ({ frames := 5, cells := 0, slots := 0, locals := 67 } : Room).cells ({ frames := 5, cells := 0, slots := 0, locals := 67 } : Room).slots) := by
  refine MetFree.of_bodySF (plainFor_of_name pn_gatherwick_maps_GwTreeMap) hisR ?_
  intro p e s m args below meth c s₁ Bd hml0 hP hK
  obtain ⟨rfl, hZ, hh⟩ := hP
  have hx := Bd.exec
  have hby := Bd.bytes
  have hml : c.maxLocals = 7 := hml0
  have hown : s.vm.findClass "gatherwick/maps/GwTreeMap" = some m.cls := findClass_of_methodNamed Bd.named
  have hnm := (name_of_methodNamed Bd.named Bd.method).1
  have hret := Bd.returns
  have hlk : meth.locks = false := BodyLoose.notSynchronized Bd
  have X0 : Stand p l e ({ frames := 5, cells := 0, slots := 0, locals := 67 } : Room) s m #[(.ref am), (.ref ak), .null, (.int (1 : Int32))] below meth c s₁ [] 0 0 := Stand.of_body Bd
  have e0 : s₁.heap = h0 := by rw [← hh, Bd.state]; rfl
  have N0 := Fr.nil n0
  suffices hgo : Go p e below s ({ frames := 5, cells := 0, slots := 0, locals := 67 } : Room).cells ({ frames := 5, cells := 0, slots := 0, locals := 67 } : Room).slots (Q_rmSg Z am ak kv n1 x1 h0 n0) s₁ (mkF m 0 #[.val (.ref am), .val (.ref ak), .val .null, .val (.int (1 : Int32)), .unset, .unset, .unset] []) from hgo.enter (ef_rmSg m am ak)
  refine Go.step (fun _ k => XS.aloadN X0.here hx rfl (hb hby d10_0) rfl rfl k) ?_
  obtain ⟨T98, X98, e98, st98⟩ := getF X0 hx hZ hown (host := "") (Or.inl (own_w hw 52 rfl)) Via.refl e0 Frt (g := (mkF m 1 #[.val (.ref am), .val (.ref ak), .val .null, .val (.int (1 : Int32)), .unset, .unset, .unset] [(.ref am)])) rfl rfl (hb hby d10_1)
  refine Go.step st98 ?_
  show Go _ _ _ _ _ _ _ T98 (mkF m 4 #[.val (.ref am), .val (.ref ak), .val .null, .val (.int (1 : Int32)), .unset, .unset, .unset] [(.ref n1)])
  refine Go.step (fun _ k => XS.astore X98.here hx rfl (hb hby d10_4) rfl rfl (l' := #[.val (.ref am), .val (.ref ak), .val .null, .val (.int (1 : Int32)), .val (.ref n1), .unset, .unset]) rfl k) ?_
  show Go _ _ _ _ _ _ _ T98 (mkF m 6 #[.val (.ref am), .val (.ref ak), .val .null, .val (.int (1 : Int32)), .val (.ref n1), .unset, .unset] [])
  refine Go.step (fun _ k => XS.aload X98.here hx rfl (hb hby d10_6) rfl rfl k) ?_
  refine Go.step (fun _ k => XS.ifnonnullYes X98.here hx rfl (pc0 := 8) (pc' := 24) rfl (hb hby d10_8) rfl (by decide) (by decide) k) ?_
  show Go _ _ _ _ _ _ _ T98 (mkF m 24 #[.val (.ref am), .val (.ref ak), .val .null, .val (.int (1 : Int32)), .val (.ref n1), .unset, .unset] [])
  refine Go.step (fun _ k => XS.aloadN X98.here hx rfl (hb hby d10_24) rfl rfl k) ?_
  refine Go.step (fun _ k => XS.aloadN X98.here hx rfl (hb hby d10_25) rfl rfl k) ?_
  refine Go.step (fun _ k => XS.aload X98.here hx rfl (hb hby d10_26) rfl rfl k) ?_
  obtain ⟨T99, X99, e99, st99⟩ := getF X98 hx hZ hown (host := "") (Or.inl (own_w hw 156 rfl)) Via.refl e98 n1_key (g := (mkF m 28 #[.val (.ref am), .val (.ref ak), .val .null, .val (.int (1 : Int32)), .val (.ref n1), .unset, .unset] [(.ref n1), (.ref ak), (.ref am)])) rfl rfl (hb hby d10_28)
  refine Go.step st99 ?_
  show Go _ _ _ _ _ _ _ T99 (mkF m 31 #[.val (.ref am), .val (.ref ak), .val .null, .val (.int (1 : Int32)), .val (.ref n1), .unset, .unset] [(.ref x1), (.ref ak), (.ref am)])
  obtain ⟨cq100, q100, q100'⟩ := Em.cell
  obtain ⟨_, _, ⟨T100, L100, k100, n100⟩, -, X100, ⟨Lc100, hQ100, l100, y100, z100⟩, st100⟩ := X99.privateBack hx (y := (⟨"gatherwick/maps/GwTreeMap", "compare", "(Ljava/lang/Object;Ljava/lang/Object;)I"⟩ : MethodName)) hown (mvT hZ (own_w hw 54 rfl)) (mvT hZ (own_w hw 55 rfl)) (own_selp (mvT hZ (own_w hw 1 rfl)) (Cond.privateMethod_at (mvP hZ (own_w hw 56 rfl) (args := #[]))) (mvT hZ (own_w hw 55 rfl)) (by decide)) (Cond.privateMethod_at (mvP hZ (own_w hw 56 rfl) (args := #[]))) (mvT hZ (own_w hw 57 rfl)) (by decide) (backOf (W := 0) (rmCe l Z a0 hw [] am ak x1 kv kv h0 n0 Z0 Fc Ek Fk Ex1 Fx1) hZ (own_w hw 57 rfl) (own_w hw 2 rfl) (by decide) (by decide)) (g := (mkF m 31 #[.val (.ref am), .val (.ref ak), .val .null, .val (.int (1 : Int32)), .val (.ref n1), .unset, .unset] [(.ref x1), (.ref ak), (.ref am)])) rfl (by rw [hml]; rfl) (Steps.refl _) (a := am) (by rw [e99]; exact q100) q100' (argsL := [(.ref ak), (.ref x1)]) (rest := []) (lenOf pd__Ljava_lang_Object_Ljava_lang_Object__I rfl) rfl (by show 2 * 0 + _ ≤ _; exact Nat.le_of_eq rfl) (hb hby d10_31) (fun _ _ => ⟨rfl, e99, (by decide : 0 + 0 ≤ _), (by decide : 0 + 0 ≤ _)⟩)
  dsimp only [Pt.U, Pt.locs, Pt.cells, Pt.slots] at X100 l100 y100 z100 st100 hQ100
  subst l100 y100 z100
  obtain ⟨h100, e100⟩ : ∃ h, T100.heap = h := ⟨_, rfl⟩
  rw [e100] at hQ100
  obtain ⟨rfl, Nq100, hs100⟩ := hQ100
  have N100 := Fr.app N0 Nq100
  rw [hs100] at e100
  refine Go.trans st100 ?_
  show Go _ _ _ _ _ _ _ T100 (mkF m 34 #[.val (.ref am), .val (.ref ak), .val .null, .val (.int (1 : Int32)), .val (.ref n1), .unset, .unset] [(.int (own_cmp kv kv))])
  refine Go.step (fun _ k => XS.istore X100.here hx rfl (hb hby d10_34) rfl (l' := #[.val (.ref am), .val (.ref ak), .val .null, .val (.int (1 : Int32)), .val (.ref n1), .val (.int (own_cmp kv kv)), .unset]) rfl k) ?_
  show Go _ _ _ _ _ _ _ T100 (mkF m 36 #[.val (.ref am), .val (.ref ak), .val .null, .val (.int (1 : Int32)), .val (.ref n1), .val (.int (own_cmp kv kv)), .unset] [])
  refine Go.step (fun _ k => XS.iload X100.here hx rfl (hb hby d10_36) rfl k) ?_
  have hc38_101 : (own_cmp kv kv) = (0 : Int32) := (own_cmpE kv)
  refine Go.step (fun _ k => XS.ifNo X100.here hx rfl (hb hby d10_38) rfl ((if0 _ _).trans (teq hc38_101).2) k) ?_
  show Go _ _ _ _ _ _ _ T100 (mkF m 41 #[.val (.ref am), .val (.ref ak), .val .null, .val (.int (1 : Int32)), .val (.ref n1), .val (.int (own_cmp kv kv)), .unset] [])
  refine Go.step (fun _ k => XS.aloadN X100.here hx rfl (hb hby d10_41) rfl rfl k) ?_
  refine Go.step (fun _ k => XS.ifnullYes X100.here hx rfl (pc0 := 42) (pc' := 51) rfl (hb hby d10_42) rfl (by decide) (by decide) k) ?_
  show Go _ _ _ _ _ _ _ T100 (mkF m 51 #[.val (.ref am), .val (.ref ak), .val .null, .val (.int (1 : Int32)), .val (.ref n1), .val (.int (own_cmp kv kv)), .unset] [])
  refine Go.step (fun _ k => XS.aload X100.here hx rfl (hb hby d10_51) rfl rfl k) ?_
  exact Go.retA X100 hx hret hlk rfl rfl (hb hby d10_53) e100 (by decide) (by decide) ⟨rfl, N100, rfl⟩
theorem d9_0 : decode prog_46_method_79_code 0 = .ok (.aload_n 1, 1) := by decide +kernel
theorem d9_1 : decode prog_46_method_79_code 1 = .ok (.ifnull 13, 3) := by decide +kernel
theorem d9_14 : decode prog_46_method_79_code 14 = .ok (.aload_n 0, 1) := by decide +kernel
theorem d9_15 : decode prog_46_method_79_code 15 = .ok (.aload_n 2, 1) := by decide +kernel
theorem d9_16 : decode prog_46_method_79_code 16 = .ok (.aconst_null, 1) := by decide +kernel
theorem d9_17 : decode prog_46_method_79_code 17 = .ok (.aload_n 1, 1) := by decide +kernel
theorem d9_18 : decode prog_46_method_79_code 18 = .ok (.ifnull 10, 3) := by decide +kernel
theorem d9_28 : decode prog_46_method_79_code 28 = .ok (.iconst 1, 1) := by decide +kernel
theorem d9_29 : decode prog_46_method_79_code 29 = .ok (.goto 4, 3) := by decide +kernel
theorem d9_33 : decode prog_46_method_79_code 33 = .ok (.invokevirtual 423, 3) := by decide +kernel
theorem d9_36 : decode prog_46_method_79_code 36 = .ok (.areturn, 1) := by decide +kernel
theorem pd__Ljava_lang_Object_Lgatherwick_maps_GwTreeMap_Place_Z_Lgatherwick_maps_RedBlackTree_Node_ : parseMethodDescriptor "(Ljava/lang/Object;Lgatherwick/maps/GwTreeMap$Place;Z)Lgatherwick/maps/RedBlackTree$Node;" = some ⟨[(.object "java/lang/Object"), (.object "gatherwick/maps/GwTreeMap$Place"), .boolean], some (.object "gatherwick/maps/RedBlackTree$Node")⟩ := by decide +kernel
theorem ef_rmFa (m : MethodId) (am : Addr) (ak : Addr) : entryFrame m #[(.ref am), .null, (.ref ak)] 3 = mkF m 0 #[.val (.ref am), .val .null, .val (.ref ak)] [] := by first | (simp [entryFrame, mkF, argsToLocals, Value.category]; done) | rfl
def Q_rmFa (Z : State) (am : Addr) (ak : Addr) (kv : Int32) (h0 : Heap) (n0 : Nat) (v : Option Value) (h : Heap) (L : List Loc) : Prop := (v = some .null) ∧ (Fr n0 L) ∧ (h = h0)
theorem rmFa (l : Launch) (Z : State) (a0 : Array Value) (hw : ∀ d ∈ tables_1, d.before a0 Z = true) (ws : List Jvm.Cond) (am : Addr) (ak : Addr) (kv : Int32) (h0 : Heap) (n0 : Nat) (Z0 : n0 ≤ h0.size) (Em : Exa Z h0 am "gatherwick/maps/GwTreeMap") (Fc : Fld Z h0 am "gatherwick/maps/GwTreeMap" "comparator" "Ljava/util/Comparator;" .null) (Frt : Fld Z h0 am "gatherwick/maps/GwTreeMap" "root" "Lgatherwick/maps/RedBlackTree$Node;" .null) (Ek : Exa Z h0 ak "java/lang/Integer") (Fk : Fld Z h0 ak "java/lang/Integer" "value" "I" (.int kv)) :
    MetFree l (⟨"gatherwick/maps/GwTreeMap", "find", "(Lgatherwick/maps/GwTreeMap$SubMap;Ljava/lang/Object;)Lgatherwick/maps/RedBlackTree$Node;"⟩ : MethodName) (head1 (Jvm.Cond.code (⟨"gatherwick/maps/GwTreeMap", "find", "(Lgatherwick/maps/GwTreeMap$SubMap;Ljava/lang/Object;)Lgatherwick/maps/RedBlackTree$Node;"⟩ : MethodName) prog_46_method_79_code 3 (some (.object "gatherwick/maps/RedBlackTree$Node")) :: ws) ({ frames := 6, cells := 0, slots := 0, locals := 85 } : Room)) (fun aA U => aA = #[(.ref am), .null, (.ref ak)] ∧ Z.Warmed39 U.vm ∧ U.heap = h0) (fun _ _ _ _ _ => True) (fun _ U o U' => ∃ v L, o = .returned v ∧ Q_rmFa Z am ak kv h0 n0 v U'.heap L ∧ FrameEnd U o U' L ({ frames := 6, cells := 0, slots := 0, locals := 85 } : Room).cells ({ frames := 6, cells := 0, slots := 0, locals := 85 } : Room).slots) := by
  refine MetFree.of_bodySF (plainFor_of_name pn_gatherwick_maps_GwTreeMap) hisR ?_
  intro p e s m args below meth c s₁ Bd hml0 hP hK
  obtain ⟨rfl, hZ, hh⟩ := hP
  have hx := Bd.exec
  have hby := Bd.bytes
  have hml : c.maxLocals = 3 := hml0
  have hown : s.vm.findClass "gatherwick/maps/GwTreeMap" = some m.cls := findClass_of_methodNamed Bd.named
  have hnm := (name_of_methodNamed Bd.named Bd.method).1
  have hret := Bd.returns
  have hlk : meth.locks = false := BodyLoose.notSynchronized Bd
  have X0 : Stand p l e ({ frames := 6, cells := 0, slots := 0, locals := 85 } : Room) s m #[(.ref am), .null, (.ref ak)] below meth c s₁ [] 0 0 := Stand.of_body Bd
  have e0 : s₁.heap = h0 := by rw [← hh, Bd.state]; rfl
  have N0 := Fr.nil n0
  suffices hgo : Go p e below s ({ frames := 6, cells := 0, slots := 0, locals := 85 } : Room).cells ({ frames := 6, cells := 0, slots := 0, locals := 85 } : Room).slots (Q_rmFa Z am ak kv h0 n0) s₁ (mkF m 0 #[.val (.ref am), .val .null, .val (.ref ak)] []) from hgo.enter (ef_rmFa m am ak)
  refine Go.step (fun _ k => XS.aloadN X0.here hx rfl (hb hby d9_0) rfl rfl k) ?_
  refine Go.step (fun _ k => XS.ifnullYes X0.here hx rfl (pc0 := 1) (pc' := 14) rfl (hb hby d9_1) rfl (by decide) (by decide) k) ?_
  show Go _ _ _ _ _ _ _ s₁ (mkF m 14 #[.val (.ref am), .val .null, .val (.ref ak)] [])
  refine Go.step (fun _ k => XS.aloadN X0.here hx rfl (hb hby d9_14) rfl rfl k) ?_
  refine Go.step (fun _ k => XS.aloadN X0.here hx rfl (hb hby d9_15) rfl rfl k) ?_
  refine Go.step (fun _ k => XS.aconstNull X0.here hx rfl (hb hby d9_16) k) ?_
  refine Go.step (fun _ k => XS.aloadN X0.here hx rfl (hb hby d9_17) rfl rfl k) ?_
  refine Go.step (fun _ k => XS.ifnullYes X0.here hx rfl (pc0 := 18) (pc' := 28) rfl (hb hby d9_18) rfl (by decide) (by decide) k) ?_
  show Go _ _ _ _ _ _ _ s₁ (mkF m 28 #[.val (.ref am), .val .null, .val (.ref ak)] [.null, (.ref ak), (.ref am)])
  refine Go.step (fun _ k => XS.iconst X0.here hx rfl (hb hby d9_28) k) ?_
  refine Go.step (fun _ k => XS.goto X0.here hx rfl (pc0 := 29) (pc' := 33) rfl (hb hby d9_29) (by decide) (by decide) k) ?_
  show Go _ _ _ _ _ _ _ s₁ (mkF m 33 #[.val (.ref am), .val .null, .val (.ref ak)] [(.int (1 : Int32)), .null, (.ref ak), (.ref am)])
  obtain ⟨cq102, q102, q102'⟩ := Em.cell
  obtain ⟨_, _, ⟨T102, L102, k102, n102⟩, -, X102, ⟨Lc102, hQ102, l102, y102, z102⟩, st102⟩ := X0.privateBack hx (y := (⟨"gatherwick/maps/GwTreeMap", "search", "(Ljava/lang/Object;Lgatherwick/maps/GwTreeMap$Place;Z)Lgatherwick/maps/RedBlackTree$Node;"⟩ : MethodName)) hown (mvT hZ (own_w hw 48 rfl)) (mvT hZ (own_w hw 49 rfl)) (own_selp (mvT hZ (own_w hw 1 rfl)) (Cond.privateMethod_at (mvP hZ (own_w hw 50 rfl) (args := #[]))) (mvT hZ (own_w hw 49 rfl)) (by decide)) (Cond.privateMethod_at (mvP hZ (own_w hw 50 rfl) (args := #[]))) (mvT hZ (own_w hw 51 rfl)) (by decide) (backOf (W := 0) (rmSf l Z a0 hw [] am ak kv h0 n0 Z0 Em Fc Frt Ek Fk) hZ (own_w hw 51 rfl) (own_w hw 2 rfl) (by decide) (by decide)) (g := (mkF m 33 #[.val (.ref am), .val .null, .val (.ref ak)] [(.int (1 : Int32)), .null, (.ref ak), (.ref am)])) rfl (by rw [hml]; rfl) (Steps.refl _) (a := am) (by rw [e0]; exact q102) q102' (argsL := [(.ref ak), .null, (.int (1 : Int32))]) (rest := []) (lenOf pd__Ljava_lang_Object_Lgatherwick_maps_GwTreeMap_Place_Z_Lgatherwick_maps_RedBlackTree_Node_ rfl) rfl (by show 2 * 0 + _ ≤ _; exact Nat.le_of_eq rfl) (hb hby d9_33) (fun _ _ => ⟨rfl, e0, (by decide : 0 + 0 ≤ _), (by decide : 0 + 0 ≤ _)⟩)
  dsimp only [Pt.U, Pt.locs, Pt.cells, Pt.slots] at X102 l102 y102 z102 st102 hQ102
  subst l102 y102 z102
  obtain ⟨h102, e102⟩ : ∃ h, T102.heap = h := ⟨_, rfl⟩
  rw [e102] at hQ102
  obtain ⟨rfl, Nq102, hs102⟩ := hQ102
  have N102 := Fr.app N0 Nq102
  rw [hs102] at e102
  refine Go.trans st102 ?_
  show Go _ _ _ _ _ _ _ T102 (mkF m 36 #[.val (.ref am), .val .null, .val (.ref ak)] [.null])
  exact Go.retA X102 hx hret hlk rfl rfl (hb hby d9_36) e102 (by decide) (by decide) ⟨rfl, N102, rfl⟩
theorem ef_rmFb (m : MethodId) (am : Addr) (ak : Addr) : entryFrame m #[(.ref am), .null, (.ref ak)] 3 = mkF m 0 #[.val (.ref am), .val .null, .val (.ref ak)] [] := by first | (simp [entryFrame, mkF, argsToLocals, Value.category]; done) | rfl
def Q_rmFb (Z : State) (am : Addr) (ak : Addr) (kv : Int32) (n1 : Addr) (x1 : Addr) (h0 : Heap) (n0 : Nat) (v : Option Value) (h : Heap) (L : List Loc) : Prop := (v = some (.ref n1)) ∧ (Fr n0 L) ∧ (h = h0)
theorem rmFb (l : Launch) (Z : State) (a0 : Array Value) (hw : ∀ d ∈ tables_1, d.before a0 Z = true) (ws : List Jvm.Cond) (am : Addr) (ak : Addr) (kv : Int32) (n1 : Addr) (x1 : Addr) (h0 : Heap) (n0 : Nat) (Z0 : n0 ≤ h0.size) (Em : Exa Z h0 am "gatherwick/maps/GwTreeMap") (Fc : Fld Z h0 am "gatherwick/maps/GwTreeMap" "comparator" "Ljava/util/Comparator;" .null) (Frt : Fld Z h0 am "gatherwick/maps/GwTreeMap" "root" "Lgatherwick/maps/RedBlackTree$Node;" (.ref n1)) (Ek : Exa Z h0 ak "java/lang/Integer") (Fk : Fld Z h0 ak "java/lang/Integer" "value" "I" (.int kv)) (n1_key : Fld Z h0 n1 "gatherwick/maps/RedBlackTree$Node" "key" "Ljava/lang/Object;" (.ref x1)) (Ex1 : Exa Z h0 x1 "java/lang/Integer") (Fx1 : Fld Z h0 x1 "java/lang/Integer" "value" "I" (.int kv)) :
    MetFree l (⟨"gatherwick/maps/GwTreeMap", "find", "(Lgatherwick/maps/GwTreeMap$SubMap;Ljava/lang/Object;)Lgatherwick/maps/RedBlackTree$Node;"⟩ : MethodName) (head1 (Jvm.Cond.code (⟨"gatherwick/maps/GwTreeMap", "find", "(Lgatherwick/maps/GwTreeMap$SubMap;Ljava/lang/Object;)Lgatherwick/maps/RedBlackTree$Node;"⟩ : MethodName) prog_46_method_79_code 3 (some (.object "gatherwick/maps/RedBlackTree$Node")) :: ws) ({ frames := 6, cells := 0, slots := 0, locals := 85 } : Room)) (fun aA U => aA = #[(.ref am), .null, (.ref ak)] ∧ Z.Warmed39 U.vm ∧ U.heap = h0) (fun _ _ _ _ _ => True) (fun _ U o U' => ∃ v L, o = .returned v ∧ Q_rmFb Z am ak kv n1 x1 h0 n0 v U'.heap L ∧ FrameEnd U o U' L ({ frames := 6, cells := 0, slots := 0, locals := 85 } : Room).cells ({ frames := 6, cells := 0, slots := 0, locals := 85 } : Room).slots) := by
  refine MetFree.of_bodySF (plainFor_of_name pn_gatherwick_maps_GwTreeMap) hisR ?_
  intro p e s m args below meth c s₁ Bd hml0 hP hK
  obtain ⟨rfl, hZ, hh⟩ := hP
  have hx := Bd.exec
  have hby := Bd.bytes
  have hml : c.maxLocals = 3 := hml0
  have hown : s.vm.findClass "gatherwick/maps/GwTreeMap" = some m.cls := findClass_of_methodNamed Bd.named
  have hnm := (name_of_methodNamed Bd.named Bd.method).1
  have hret := Bd.returns
  have hlk : meth.locks = false := BodyLoose.notSynchronized Bd
  have X0 : Stand p l e ({ frames := 6, cells := 0, slots := 0, locals := 85 } : Room) s m #[(.ref am), .null, (.ref ak)] below meth c s₁ [] 0 0 := Stand.of_body Bd
  have e0 : s₁.heap = h0 := by rw [← hh, Bd.state]; rfl
  have N0 := Fr.nil n0
  suffices hgo : Go p e below s ({ frames := 6, cells := 0, slots := 0, locals := 85 } : Room).cells ({ frames := 6, cells := 0, slots := 0, locals := 85 } : Room).slots (Q_rmFb Z am ak kv n1 x1 h0 n0) s₁ (mkF m 0 #[.val (.ref am), .val .null, .val (.ref ak)] []) from hgo.enter (ef_rmFb m am ak)
  refine Go.step (fun _ k => XS.aloadN X0.here hx rfl (hb hby d9_0) rfl rfl k) ?_
  refine Go.step (fun _ k => XS.ifnullYes X0.here hx rfl (pc0 := 1) (pc' := 14) rfl (hb hby d9_1) rfl (by decide) (by decide) k) ?_
  show Go _ _ _ _ _ _ _ s₁ (mkF m 14 #[.val (.ref am), .val .null, .val (.ref ak)] [])
  refine Go.step (fun _ k => XS.aloadN X0.here hx rfl (hb hby d9_14) rfl rfl k) ?_
  refine Go.step (fun _ k => XS.aloadN X0.here hx rfl (hb hby d9_15) rfl rfl k) ?_
  refine Go.step (fun _ k => XS.aconstNull X0.here hx rfl (hb hby d9_16) k) ?_
  refine Go.step (fun _ k => XS.aloadN X0.here hx rfl (hb hby d9_17) rfl rfl k) ?_
  refine Go.step (fun _ k => XS.ifnullYes X0.here hx rfl (pc0 := 18) (pc' := 28) rfl (hb hby d9_18) rfl (by decide) (by decide) k) ?_
  show Go _ _ _ _ _ _ _ s₁ (mkF m 28 #[.val (.ref am), .val .null, .val (.ref ak)] [.null, (.ref ak), (.ref am)])
  refine Go.step (fun _ k => XS.iconst X0.here hx rfl (hb hby d9_28) k) ?_
  refine Go.step (fun _ k => XS.goto X0.here hx rfl (pc0 := 29) (pc' := 33) rfl (hb hby d9_29) (by decide) (by decide) k) ?_
  show Go _ _ _ _ _ _ _ s₁ (mkF m 33 #[.val (.ref am), .val .null, .val (.ref ak)] [(.int (1 : Int32)), .null, (.ref ak), (.ref am)])
  obtain ⟨cq103, q103, q103'⟩ := Em.cell
  obtain ⟨_, _, ⟨T103, L103, k103, n103⟩, -, X103, ⟨Lc103, hQ103, l103, y103, z103⟩, st103⟩ := X0.privateBack hx (y := (⟨"gatherwick/maps/GwTreeMap", "search", "(Ljava/lang/Object;Lgatherwick/maps/GwTreeMap$Place;Z)Lgatherwick/maps/RedBlackTree$Node;"⟩ : MethodName)) hown (mvT hZ (own_w hw 48 rfl)) (mvT hZ (own_w hw 49 rfl)) (own_selp (mvT hZ (own_w hw 1 rfl)) (Cond.privateMethod_at (mvP hZ (own_w hw 50 rfl) (args := #[]))) (mvT hZ (own_w hw 49 rfl)) (by decide)) (Cond.privateMethod_at (mvP hZ (own_w hw 50 rfl) (args := #[]))) (mvT hZ (own_w hw 51 rfl)) (by decide) (backOf (W := 0) (rmSg l Z a0 hw [] am ak kv n1 x1 h0 n0 Z0 Em Fc Frt Ek Fk n1_key Ex1 Fx1) hZ (own_w hw 51 rfl) (own_w hw 2 rfl) (by decide) (by decide)) (g := (mkF m 33 #[.val (.ref am), .val .null, .val (.ref ak)] [(.int (1 : Int32)), .null, (.ref ak), (.ref am)])) rfl (by rw [hml]; rfl) (Steps.refl _) (a := am) (by rw [e0]; exact q103) q103' (argsL := [(.ref ak), .null, (.int (1 : Int32))]) (rest := []) (lenOf pd__Ljava_lang_Object_Lgatherwick_maps_GwTreeMap_Place_Z_Lgatherwick_maps_RedBlackTree_Node_ rfl) rfl (by show 2 * 0 + _ ≤ _; exact Nat.le_of_eq rfl) (hb hby d9_33) (fun _ _ => ⟨rfl, e0, (by decide : 0 + 0 ≤ _), (by decide : 0 + 0 ≤ _)⟩)
  dsimp only [Pt.U, Pt.locs, Pt.cells, Pt.slots] at X103 l103 y103 z103 st103 hQ103
  subst l103 y103 z103
  obtain ⟨h103, e103⟩ : ∃ h, T103.heap = h := ⟨_, rfl⟩
  rw [e103] at hQ103
  obtain ⟨rfl, Nq103, hs103⟩ := hQ103
  have N103 := Fr.app N0 Nq103
  rw [hs103] at e103
  refine Go.trans st103 ?_
  show Go _ _ _ _ _ _ _ T103 (mkF m 36 #[.val (.ref am), .val .null, .val (.ref ak)] [(.ref n1)])
  exact Go.retA X103 hx hret hlk rfl rfl (hb hby d9_36) e103 (by decide) (by decide) ⟨rfl, N103, rfl⟩
theorem d8_0 : decode prog_46_method_67_code 0 = .ok (.aload_n 0, 1) := by decide +kernel
theorem d8_1 : decode prog_46_method_67_code 1 = .ok (.aload_n 1, 1) := by decide +kernel
theorem d8_2 : decode prog_46_method_67_code 2 = .ok (.aload_n 2, 1) := by decide +kernel
theorem d8_3 : decode prog_46_method_67_code 3 = .ok (.invokevirtual 386, 3) := by decide +kernel
theorem d8_6 : decode prog_46_method_67_code 6 = .ok (.astore_n 3, 1) := by decide +kernel
theorem d8_7 : decode prog_46_method_67_code 7 = .ok (.aload_n 3, 1) := by decide +kernel
theorem d8_8 : decode prog_46_method_67_code 8 = .ok (.ifnonnull 7, 3) := by decide +kernel
theorem d8_11 : decode prog_46_method_67_code 11 = .ok (.aconst_null, 1) := by decide +kernel
theorem d8_12 : decode prog_46_method_67_code 12 = .ok (.goto 7, 3) := by decide +kernel
theorem d8_15 : decode prog_46_method_67_code 15 = .ok (.aload_n 3, 1) := by decide +kernel
theorem d8_16 : decode prog_46_method_67_code 16 = .ok (.getfield 130, 3) := by decide +kernel
theorem d8_19 : decode prog_46_method_67_code 19 = .ok (.areturn, 1) := by decide +kernel
theorem pd__Lgatherwick_maps_GwTreeMap_SubMap_Ljava_lang_Object__Lgatherwick_maps_RedBlackTree_Node_ : parseMethodDescriptor "(Lgatherwick/maps/GwTreeMap$SubMap;Ljava/lang/Object;)Lgatherwick/maps/RedBlackTree$Node;" = some ⟨[(.object "gatherwick/maps/GwTreeMap$SubMap"), (.object "java/lang/Object")], some (.object "gatherwick/maps/RedBlackTree$Node")⟩ := by decide +kernel
theorem ef_rmGa (m : MethodId) (am : Addr) (ak : Addr) : entryFrame m #[(.ref am), .null, (.ref ak)] 4 = mkF m 0 #[.val (.ref am), .val .null, .val (.ref ak), .unset] [] := by first | (simp [entryFrame, mkF, argsToLocals, Value.category]; done) | rfl
def Q_rmGa (Z : State) (am : Addr) (ak : Addr) (kv : Int32) (h0 : Heap) (n0 : Nat) (v : Option Value) (h : Heap) (L : List Loc) : Prop := (v = some .null) ∧ (Fr n0 L) ∧ (h = h0)
theorem rmGa (l : Launch) (Z : State) (a0 : Array Value) (hw : ∀ d ∈ tables_1, d.before a0 Z = true) (ws : List Jvm.Cond) (am : Addr) (ak : Addr) (kv : Int32) (h0 : Heap) (n0 : Nat) (Z0 : n0 ≤ h0.size) (Em : Exa Z h0 am "gatherwick/maps/GwTreeMap") (Fc : Fld Z h0 am "gatherwick/maps/GwTreeMap" "comparator" "Ljava/util/Comparator;" .null) (Frt : Fld Z h0 am "gatherwick/maps/GwTreeMap" "root" "Lgatherwick/maps/RedBlackTree$Node;" .null) (Ek : Exa Z h0 ak "java/lang/Integer") (Fk : Fld Z h0 ak "java/lang/Integer" "value" "I" (.int kv)) :
    MetFree l (⟨"gatherwick/maps/GwTreeMap", "getIn", "(Lgatherwick/maps/GwTreeMap$SubMap;Ljava/lang/Object;)Ljava/lang/Object;"⟩ : MethodName) (head1 (Jvm.Cond.code (⟨"gatherwick/maps/GwTreeMap", "getIn", "(Lgatherwick/maps/GwTreeMap$SubMap;Ljava/lang/Object;)Ljava/lang/Object;"⟩ : MethodName) prog_46_method_67_code 4 (some (.object "java/lang/Object")) :: ws) ({ frames := 7, cells := 0, slots := 0, locals := 99 } : Room)) (fun aA U => aA = #[(.ref am), .null, (.ref ak)] ∧ Z.Warmed39 U.vm ∧ U.heap = h0) (fun _ _ _ _ _ => True) (fun _ U o U' => ∃ v L, o = .returned v ∧ Q_rmGa Z am ak kv h0 n0 v U'.heap L ∧ FrameEnd U o U' L ({ frames := 7, cells := 0, slots := 0, locals := 99 } : Room).cells ({ frames := 7, cells := 0, slots := 0, locals := 99 } : Room).slots) := by
  refine MetFree.of_bodySF (plainFor_of_name pn_gatherwick_maps_GwTreeMap) hisR ?_
  intro p e s m args below meth c s₁ Bd hml0 hP hK
  obtain ⟨rfl, hZ, hh⟩ := hP
  have hx := Bd.exec
  have hby := Bd.bytes
  have hml : c.maxLocals = 4 := hml0
  have hown : s.vm.findClass "gatherwick/maps/GwTreeMap" = some m.cls := findClass_of_methodNamed Bd.named
  have hnm := (name_of_methodNamed Bd.named Bd.method).1
  have hret := Bd.returns
  have hlk : meth.locks = false := BodyLoose.notSynchronized Bd
  have X0 : Stand p l e ({ frames := 7, cells := 0, slots := 0, locals := 99 } : Room) s m #[(.ref am), .null, (.ref ak)] below meth c s₁ [] 0 0 := Stand.of_body Bd
  have e0 : s₁.heap = h0 := by rw [← hh, Bd.state]; rfl
  have N0 := Fr.nil n0
  suffices hgo : Go p e below s ({ frames := 7, cells := 0, slots := 0, locals := 99 } : Room).cells ({ frames := 7, cells := 0, slots := 0, locals := 99 } : Room).slots (Q_rmGa Z am ak kv h0 n0) s₁ (mkF m 0 #[.val (.ref am), .val .null, .val (.ref ak), .unset] []) from hgo.enter (ef_rmGa m am ak)
  refine Go.step (fun _ k => XS.aloadN X0.here hx rfl (hb hby d8_0) rfl rfl k) ?_
  refine Go.step (fun _ k => XS.aloadN X0.here hx rfl (hb hby d8_1) rfl rfl k) ?_
  refine Go.step (fun _ k => XS.aloadN X0.here hx rfl (hb hby d8_2) rfl rfl k) ?_
  obtain ⟨cq104, q104, q104'⟩ := Em.cell
  obtain ⟨_, _, ⟨T104, L104, k104, n104⟩, -, X104, ⟨Lc104, hQ104, l104, y104, z104⟩, st104⟩ := X0.privateBack hx (y := (⟨"gatherwick/maps/GwTreeMap", "find", "(Lgatherwick/maps/GwTreeMap$SubMap;Ljava/lang/Object;)Lgatherwick/maps/RedBlackTree$Node;"⟩ : MethodName)) hown (mvT hZ (own_w hw 44 rfl)) (mvT hZ (own_w hw 45 rfl)) (own_selp (mvT hZ (own_w hw 1 rfl)) (Cond.privateMethod_at (mvP hZ (own_w hw 46 rfl) (args := #[]))) (mvT hZ (own_w hw 45 rfl)) (by decide)) (Cond.privateMethod_at (mvP hZ (own_w hw 46 rfl) (args := #[]))) (mvT hZ (own_w hw 47 rfl)) (by decide) (backOf (W := 0) (rmFa l Z a0 hw [] am ak kv h0 n0 Z0 Em Fc Frt Ek Fk) hZ (own_w hw 47 rfl) (own_w hw 2 rfl) (by decide) (by decide)) (g := (mkF m 3 #[.val (.ref am), .val .null, .val (.ref ak), .unset] [(.ref ak), .null, (.ref am)])) rfl (by rw [hml]; rfl) (Steps.refl _) (a := am) (by rw [e0]; exact q104) q104' (argsL := [.null, (.ref ak)]) (rest := []) (lenOf pd__Lgatherwick_maps_GwTreeMap_SubMap_Ljava_lang_Object__Lgatherwick_maps_RedBlackTree_Node_ rfl) rfl (by show 2 * 0 + _ ≤ _; exact Nat.le_of_eq rfl) (hb hby d8_3) (fun _ _ => ⟨rfl, e0, (by decide : 0 + 0 ≤ _), (by decide : 0 + 0 ≤ _)⟩)
  dsimp only [Pt.U, Pt.locs, Pt.cells, Pt.slots] at X104 l104 y104 z104 st104 hQ104
  subst l104 y104 z104
  obtain ⟨h104, e104⟩ : ∃ h, T104.heap = h := ⟨_, rfl⟩
  rw [e104] at hQ104
  obtain ⟨rfl, Nq104, hs104⟩ := hQ104
  have N104 := Fr.app N0 Nq104
  rw [hs104] at e104
  refine Go.trans st104 ?_
  show Go _ _ _ _ _ _ _ T104 (mkF m 6 #[.val (.ref am), .val .null, .val (.ref ak), .unset] [.null])
  refine Go.step (fun _ k => XS.astoreN X104.here hx rfl (hb hby d8_6) rfl rfl (l' := #[.val (.ref am), .val .null, .val (.ref ak), .val .null]) rfl k) ?_
  show Go _ _ _ _ _ _ _ T104 (mkF m 7 #[.val (.ref am), .val .null, .val (.ref ak), .val .null] [])
  refine Go.step (fun _ k => XS.aloadN X104.here hx rfl (hb hby d8_7) rfl rfl k) ?_
  refine Go.step (fun _ k => XS.ifnonnullNo X104.here hx rfl (hb hby d8_8) rfl k) ?_
  show Go _ _ _ _ _ _ _ T104 (mkF m 11 #[.val (.ref am), .val .null, .val (.ref ak), .val .null] [])
  refine Go.step (fun _ k => XS.aconstNull X104.here hx rfl (hb hby d8_11) k) ?_
  refine Go.step (fun _ k => XS.goto X104.here hx rfl (pc0 := 12) (pc' := 19) rfl (hb hby d8_12) (by decide) (by decide) k) ?_
  show Go _ _ _ _ _ _ _ T104 (mkF m 19 #[.val (.ref am), .val .null, .val (.ref ak), .val .null] [.null])
  exact Go.retA X104 hx hret hlk rfl rfl (hb hby d8_19) e104 (by decide) (by decide) ⟨rfl, N104, rfl⟩
theorem ef_rmGb (m : MethodId) (am : Addr) (ak : Addr) : entryFrame m #[(.ref am), .null, (.ref ak)] 4 = mkF m 0 #[.val (.ref am), .val .null, .val (.ref ak), .unset] [] := by first | (simp [entryFrame, mkF, argsToLocals, Value.category]; done) | rfl
def Q_rmGb (Z : State) (am : Addr) (ak : Addr) (kv : Int32) (n1 : Addr) (x1 : Addr) (y1 : Addr) (h0 : Heap) (n0 : Nat) (v : Option Value) (h : Heap) (L : List Loc) : Prop := (v = some (.ref y1)) ∧ (Fr n0 L) ∧ (h = h0)
theorem rmGb (l : Launch) (Z : State) (a0 : Array Value) (hw : ∀ d ∈ tables_1, d.before a0 Z = true) (ws : List Jvm.Cond) (am : Addr) (ak : Addr) (kv : Int32) (n1 : Addr) (x1 : Addr) (y1 : Addr) (h0 : Heap) (n0 : Nat) (Z0 : n0 ≤ h0.size) (Em : Exa Z h0 am "gatherwick/maps/GwTreeMap") (Fc : Fld Z h0 am "gatherwick/maps/GwTreeMap" "comparator" "Ljava/util/Comparator;" .null) (Frt : Fld Z h0 am "gatherwick/maps/GwTreeMap" "root" "Lgatherwick/maps/RedBlackTree$Node;" (.ref n1)) (Ek : Exa Z h0 ak "java/lang/Integer") (Fk : Fld Z h0 ak "java/lang/Integer" "value" "I" (.int kv)) (n1_key : Fld Z h0 n1 "gatherwick/maps/RedBlackTree$Node" "key" "Ljava/lang/Object;" (.ref x1)) (Ex1 : Exa Z h0 x1 "java/lang/Integer") (Fx1 : Fld Z h0 x1 "java/lang/Integer" "value" "I" (.int kv)) (n1_value : Fld Z h0 n1 "gatherwick/maps/RedBlackTree$Node" "value" "Ljava/lang/Object;" (.ref y1)) :
    MetFree l (⟨"gatherwick/maps/GwTreeMap", "getIn", "(Lgatherwick/maps/GwTreeMap$SubMap;Ljava/lang/Object;)Ljava/lang/Object;"⟩ : MethodName) (head1 (Jvm.Cond.code (⟨"gatherwick/maps/GwTreeMap", "getIn", "(Lgatherwick/maps/GwTreeMap$SubMap;Ljava/lang/Object;)Ljava/lang/Object;"⟩ : MethodName) prog_46_method_67_code 4 (some (.object "java/lang/Object")) :: ws) ({ frames := 7, cells := 0, slots := 0, locals := 99 } : Room)) (fun aA U => aA = #[(.ref am), .null, (.ref ak)] ∧ Z.Warmed39 U.vm ∧ U.heap = h0) (fun _ _ _ _ _ => True) (fun _ U o U' => ∃ v L, o = .returned v ∧ Q_rmGb Z am ak kv n1 x1 y1 h0 n0 v U'.heap L ∧ FrameEnd U o U' L ({ frames := 7, cells := 0, slots := 0, locals := 99 } : Room).cells ({ frames := 7, cells := 0, slots := 0, locals := 99 } : Room).slots) := by
  refine MetFree.of_bodySF (plainFor_of_name pn_gatherwick_maps_GwTreeMap) hisR ?_
  intro p e s m args below meth c s₁ Bd hml0 hP hK
  obtain ⟨rfl, hZ, hh⟩ := hP
  have hx := Bd.exec
  have hby := Bd.bytes
  have hml : c.maxLocals = 4 := hml0
  have hown : s.vm.findClass "gatherwick/maps/GwTreeMap" = some m.cls := findClass_of_methodNamed Bd.named
  have hnm := (name_of_methodNamed Bd.named Bd.method).1
  have hret := Bd.returns
  have hlk : meth.locks = false := BodyLoose.notSynchronized Bd
  have X0 : Stand p l e ({ frames := 7, cells := 0, slots := 0, locals := 99 } : Room) s m #[(.ref am), .null, (.ref ak)] below meth c s₁ [] 0 0 := Stand.of_body Bd
  have e0 : s₁.heap = h0 := by rw [← hh, Bd.state]; rfl
  have N0 := Fr.nil n0
  suffices hgo : Go p e below s ({ frames := 7, cells := 0, slots := 0, locals := 99 } : Room).cells ({ frames := 7, cells := 0, slots := 0, locals := 99 } : Room).slots (Q_rmGb Z am ak kv n1 x1 y1 h0 n0) s₁ (mkF m 0 #[.val (.ref am), .val .null, .val (.ref ak), .unset] []) from hgo.enter (ef_rmGb m am ak)
  refine Go.step (fun _ k => XS.aloadN X0.here hx rfl (hb hby d8_0) rfl rfl k) ?_
  refine Go.step (fun _ k => XS.aloadN X0.here hx rfl (hb hby d8_1) rfl rfl k) ?_
  refine Go.step (fun _ k => XS.aloadN X0.here hx rfl (hb hby d8_2) rfl rfl k) ?_
  obtain ⟨cq105, q105, q105'⟩ := Em.cell
  obtain ⟨_, _, ⟨T105, L105, k105, n105⟩, -, X105, ⟨Lc105, hQ105, l105, y105, z105⟩, st105⟩ := X0.privateBack hx (y := (⟨"gatherwick/maps/GwTreeMap", "find", "(Lgatherwick/maps/GwTreeMap$SubMap;Ljava/lang/Object;)Lgatherwick/maps/RedBlackTree$Node;"⟩ : MethodName)) hown (mvT hZ (own_w hw 44 rfl)) (mvT hZ (own_w hw 45 rfl)) (own_selp (mvT hZ (own_w hw 1 rfl)) (Cond.privateMethod_at (mvP hZ (own_w hw 46 rfl) (args := #[]))) (mvT hZ (own_w hw 45 rfl)) (by decide)) (Cond.privateMethod_at (mvP hZ (own_w hw 46 rfl) (args := #[]))) (mvT hZ (own_w hw 47 rfl)) (by decide) (backOf (W := 0) (rmFb l Z a0 hw [] am ak kv n1 x1 h0 n0 Z0 Em Fc Frt Ek Fk n1_key Ex1 Fx1) hZ (own_w hw 47 rfl) (own_w hw 2 rfl) (by decide) (by decide)) (g := (mkF m 3 #[.val (.ref am), .val .null, .val (.ref ak), .unset] [(.ref ak), .null, (.ref am)])) rfl (by rw [hml]; rfl) (Steps.refl _) (a := am) (by rw [e0]; exact q105) q105' (argsL := [.null, (.ref ak)]) (rest := []) (lenOf pd__Lgatherwick_maps_GwTreeMap_SubMap_Ljava_lang_Object__Lgatherwick_maps_RedBlackTree_Node_ rfl) rfl (by show 2 * 0 + _ ≤ _; exact Nat.le_of_eq rfl) (hb hby d8_3) (fun _ _ => ⟨rfl, e0, (by decide : 0 + 0 ≤ _), (by decide : 0 + 0 ≤ _)⟩)
  dsimp only [Pt.U, Pt.locs, Pt.cells, Pt.slots] at X105 l105 y105 z105 st105 hQ105
  subst l105 y105 z105
  obtain ⟨h105, e105⟩ : ∃ h, T105.heap = h := ⟨_, rfl⟩
  rw [e105] at hQ105
  obtain ⟨rfl, Nq105, hs105⟩ := hQ105
  have N105 := Fr.app N0 Nq105
  rw [hs105] at e105
  refine Go.trans st105 ?_
  show Go _ _ _ _ _ _ _ T105 (mkF m 6 #[.val (.ref am), .val .null, .val (.ref ak), .unset] [(.ref n1)])
  refine Go.step (fun _ k => XS.astoreN X105.here hx rfl (hb hby d8_6) rfl rfl (l' := #[.val (.ref am), .val .null, .val (.ref ak), .val (.ref n1)]) rfl k) ?_
  show Go _ _ _ _ _ _ _ T105 (mkF m 7 #[.val (.ref am), .val .null, .val (.ref ak), .val (.ref n1)] [])
  refine Go.step (fun _ k => XS.aloadN X105.here hx rfl (hb hby d8_7) rfl rfl k) ?_
  refine Go.step (fun _ k => XS.ifnonnullYes X105.here hx rfl (pc0 := 8) (pc' := 15) rfl (hb hby d8_8) rfl (by decide) (by decide) k) ?_
  show Go _ _ _ _ _ _ _ T105 (mkF m 15 #[.val (.ref am), .val .null, .val (.ref ak), .val (.ref n1)] [])
  refine Go.step (fun _ k => XS.aloadN X105.here hx rfl (hb hby d8_15) rfl rfl k) ?_
  obtain ⟨T106, X106, e106, st106⟩ := getF X105 hx hZ hown (host := "") (Or.inl (own_w hw 157 rfl)) Via.refl e105 n1_value (g := (mkF m 16 #[.val (.ref am), .val .null, .val (.ref ak), .val (.ref n1)] [(.ref n1)])) rfl rfl (hb hby d8_16)
  refine Go.step st106 ?_
  show Go _ _ _ _ _ _ _ T106 (mkF m 19 #[.val (.ref am), .val .null, .val (.ref ak), .val (.ref n1)] [(.ref y1)])
  exact Go.retA X106 hx hret hlk rfl rfl (hb hby d8_19) e106 (by decide) (by decide) ⟨rfl, N105, rfl⟩
theorem d7_0 : decode prog_46_method_12_code 0 = .ok (.aload_n 0, 1) := by decide +kernel
theorem d7_1 : decode prog_46_method_12_code 1 = .ok (.aconst_null, 1) := by decide +kernel
theorem d7_2 : decode prog_46_method_12_code 2 = .ok (.aload_n 1, 1) := by decide +kernel
theorem d7_3 : decode prog_46_method_12_code 3 = .ok (.invokevirtual 116, 3) := by decide +kernel
theorem d7_6 : decode prog_46_method_12_code 6 = .ok (.areturn, 1) := by decide +kernel
theorem pd__Lgatherwick_maps_GwTreeMap_SubMap_Ljava_lang_Object__Ljava_lang_Object_ : parseMethodDescriptor "(Lgatherwick/maps/GwTreeMap$SubMap;Ljava/lang/Object;)Ljava/lang/Object;" = some ⟨[(.object "gatherwick/maps/GwTreeMap$SubMap"), (.object "java/lang/Object")], some (.object "java/lang/Object")⟩ := by decide +kernel
theorem ef_rmHa (m : MethodId) (am : Addr) (ak : Addr) : entryFrame m #[(.ref am), (.ref ak)] 2 = mkF m 0 #[.val (.ref am), .val (.ref ak)] [] := by first | (simp [entryFrame, mkF, argsToLocals, Value.category]; done) | rfl
def Q_rmHa (Z : State) (am : Addr) (ak : Addr) (kv : Int32) (h0 : Heap) (n0 : Nat) (v : Option Value) (h : Heap) (L : List Loc) : Prop := (v = some .null) ∧ (Fr n0 L) ∧ (h = h0)
theorem rmHa (l : Launch) (Z : State) (a0 : Array Value) (hw : ∀ d ∈ tables_1, d.before a0 Z = true) (ws : List Jvm.Cond) (am : Addr) (ak : Addr) (kv : Int32) (h0 : Heap) (n0 : Nat) (Z0 : n0 ≤ h0.size) (Em : Exa Z h0 am "gatherwick/maps/GwTreeMap") (Fc : Fld Z h0 am "gatherwick/maps/GwTreeMap" "comparator" "Ljava/util/Comparator;" .null) (Frt : Fld Z h0 am "gatherwick/maps/GwTreeMap" "root" "Lgatherwick/maps/RedBlackTree$Node;" .null) (Ek : Exa Z h0 ak "java/lang/Integer") (Fk : Fld Z h0 ak "java/lang/Integer" "value" "I" (.int kv)) :
    MetFree l (⟨"gatherwick/maps/GwTreeMap", "get", "(Ljava/lang/Object;)Ljava/lang/Object;"⟩ : MethodName) (head1 (Jvm.Cond.code (⟨"gatherwick/maps/GwTreeMap", "get", "(Ljava/lang/Object;)Ljava/lang/Object;"⟩ : MethodName) prog_46_method_12_code 2 (some (.object "java/lang/Object")) :: ws) ({ frames := 8, cells := 0, slots := 0, locals := 114 } : Room)) (fun aA U => aA = #[(.ref am), (.ref ak)] ∧ Z.Warmed39 U.vm ∧ U.heap = h0) (fun _ _ _ _ _ => True) (fun _ U o U' => ∃ v L, o = .returned v ∧ Q_rmHa Z am ak kv h0 n0 v U'.heap L ∧ FrameEnd U o U' L ({ frames := 8, cells := 0, slots := 0, locals := 114 } : Room).cells ({ frames := 8, cells := 0, slots := 0, locals := 114 } : Room).slots) := by
  refine MetFree.of_bodySF (plainFor_of_name pn_gatherwick_maps_GwTreeMap) hisR ?_
  intro p e s m args below meth c s₁ Bd hml0 hP hK
  obtain ⟨rfl, hZ, hh⟩ := hP
  have hx := Bd.exec
  have hby := Bd.bytes
  have hml : c.maxLocals = 2 := hml0
  have hown : s.vm.findClass "gatherwick/maps/GwTreeMap" = some m.cls := findClass_of_methodNamed Bd.named
  have hnm := (name_of_methodNamed Bd.named Bd.method).1
  have hret := Bd.returns
  have hlk : meth.locks = false := BodyLoose.notSynchronized Bd
  have X0 : Stand p l e ({ frames := 8, cells := 0, slots := 0, locals := 114 } : Room) s m #[(.ref am), (.ref ak)] below meth c s₁ [] 0 0 := Stand.of_body Bd
  have e0 : s₁.heap = h0 := by rw [← hh, Bd.state]; rfl
  have N0 := Fr.nil n0
  suffices hgo : Go p e below s ({ frames := 8, cells := 0, slots := 0, locals := 114 } : Room).cells ({ frames := 8, cells := 0, slots := 0, locals := 114 } : Room).slots (Q_rmHa Z am ak kv h0 n0) s₁ (mkF m 0 #[.val (.ref am), .val (.ref ak)] []) from hgo.enter (ef_rmHa m am ak)
  refine Go.step (fun _ k => XS.aloadN X0.here hx rfl (hb hby d7_0) rfl rfl k) ?_
  refine Go.step (fun _ k => XS.aconstNull X0.here hx rfl (hb hby d7_1) k) ?_
  refine Go.step (fun _ k => XS.aloadN X0.here hx rfl (hb hby d7_2) rfl rfl k) ?_
  obtain ⟨cq107, q107, q107'⟩ := Em.cell
  obtain ⟨_, _, ⟨T107, L107, k107, n107⟩, -, X107, ⟨Lc107, hQ107, l107, y107, z107⟩, st107⟩ := X0.privateBack hx (y := (⟨"gatherwick/maps/GwTreeMap", "getIn", "(Lgatherwick/maps/GwTreeMap$SubMap;Ljava/lang/Object;)Ljava/lang/Object;"⟩ : MethodName)) hown (mvT hZ (own_w hw 40 rfl)) (mvT hZ (own_w hw 41 rfl)) (own_selp (mvT hZ (own_w hw 1 rfl)) (Cond.privateMethod_at (mvP hZ (own_w hw 42 rfl) (args := #[]))) (mvT hZ (own_w hw 41 rfl)) (by decide)) (Cond.privateMethod_at (mvP hZ (own_w hw 42 rfl) (args := #[]))) (mvT hZ (own_w hw 43 rfl)) (by decide) (backOf (W := 0) (rmGa l Z a0 hw [] am ak kv h0 n0 Z0 Em Fc Frt Ek Fk) hZ (own_w hw 43 rfl) (own_w hw 2 rfl) (by decide) (by decide)) (g := (mkF m 3 #[.val (.ref am), .val (.ref ak)] [(.ref ak), .null, (.ref am)])) rfl (by rw [hml]; rfl) (Steps.refl _) (a := am) (by rw [e0]; exact q107) q107' (argsL := [.null, (.ref ak)]) (rest := []) (lenOf pd__Lgatherwick_maps_GwTreeMap_SubMap_Ljava_lang_Object__Ljava_lang_Object_ rfl) rfl (by show 2 * 0 + _ ≤ _; exact Nat.le_of_eq rfl) (hb hby d7_3) (fun _ _ => ⟨rfl, e0, (by decide : 0 + 0 ≤ _), (by decide : 0 + 0 ≤ _)⟩)
  dsimp only [Pt.U, Pt.locs, Pt.cells, Pt.slots] at X107 l107 y107 z107 st107 hQ107
  subst l107 y107 z107
  obtain ⟨h107, e107⟩ : ∃ h, T107.heap = h := ⟨_, rfl⟩
  rw [e107] at hQ107
  obtain ⟨rfl, Nq107, hs107⟩ := hQ107
  have N107 := Fr.app N0 Nq107
  rw [hs107] at e107
  refine Go.trans st107 ?_
  show Go _ _ _ _ _ _ _ T107 (mkF m 6 #[.val (.ref am), .val (.ref ak)] [.null])
  exact Go.retA X107 hx hret hlk rfl rfl (hb hby d7_6) e107 (by decide) (by decide) ⟨rfl, N107, rfl⟩
theorem ef_rmHb (m : MethodId) (am : Addr) (ak : Addr) : entryFrame m #[(.ref am), (.ref ak)] 2 = mkF m 0 #[.val (.ref am), .val (.ref ak)] [] := by first | (simp [entryFrame, mkF, argsToLocals, Value.category]; done) | rfl
def Q_rmHb (Z : State) (am : Addr) (ak : Addr) (kv : Int32) (n1 : Addr) (x1 : Addr) (y1 : Addr) (h0 : Heap) (n0 : Nat) (v : Option Value) (h : Heap) (L : List Loc) : Prop := (v = some (.ref y1)) ∧ (Fr n0 L) ∧ (h = h0)
theorem rmHb (l : Launch) (Z : State) (a0 : Array Value) (hw : ∀ d ∈ tables_1, d.before a0 Z = true) (ws : List Jvm.Cond) (am : Addr) (ak : Addr) (kv : Int32) (n1 : Addr) (x1 : Addr) (y1 : Addr) (h0 : Heap) (n0 : Nat) (Z0 : n0 ≤ h0.size) (Em : Exa Z h0 am "gatherwick/maps/GwTreeMap") (Fc : Fld Z h0 am "gatherwick/maps/GwTreeMap" "comparator" "Ljava/util/Comparator;" .null) (Frt : Fld Z h0 am "gatherwick/maps/GwTreeMap" "root" "Lgatherwick/maps/RedBlackTree$Node;" (.ref n1)) (Ek : Exa Z h0 ak "java/lang/Integer") (Fk : Fld Z h0 ak "java/lang/Integer" "value" "I" (.int kv)) (n1_key : Fld Z h0 n1 "gatherwick/maps/RedBlackTree$Node" "key" "Ljava/lang/Object;" (.ref x1)) (Ex1 : Exa Z h0 x1 "java/lang/Integer") (Fx1 : Fld Z h0 x1 "java/lang/Integer" "value" "I" (.int kv)) (n1_value : Fld Z h0 n1 "gatherwick/maps/RedBlackTree$Node" "value" "Ljava/lang/Object;" (.ref y1)) :
    MetFree l (⟨"gatherwick/maps/GwTreeMap", "get", "(Ljava/lang/Object;)Ljava/lang/Object;"⟩ : MethodName) (head1 (Jvm.Cond.code (⟨"gatherwick/maps/GwTreeMap", "get", "(Ljava/lang/Object;)Ljava/lang/Object;"⟩ : MethodName) prog_46_method_12_code 2 (some (.object "java/lang/Object")) :: ws) ({ frames := 8, cells := 0, slots := 0, locals := 114 } : Room)) (fun aA U => aA = #[(.ref am), (.ref ak)] ∧ Z.Warmed39 U.vm ∧ U.heap = h0) (fun _ _ _ _ _ => True) (fun _ U o U' => ∃ v L, o = .returned v ∧ Q_rmHb Z am ak kv n1 x1 y1 h0 n0 v U'.heap L ∧ FrameEnd U o U' L ({ frames := 8, cells := 0, slots := 0, locals := 114 } : Room).cells ({ frames := 8, cells := 0, slots := 0, locals := 114 } : Room).slots) := by
  refine MetFree.of_bodySF (plainFor_of_name pn_gatherwick_maps_GwTreeMap) hisR ?_
  intro p e s m args below meth c s₁ Bd hml0 hP hK
  obtain ⟨rfl, hZ, hh⟩ := hP
  have hx := Bd.exec
  have hby := Bd.bytes
  have hml : c.maxLocals = 2 := hml0
  have hown : s.vm.findClass "gatherwick/maps/GwTreeMap" = some m.cls := findClass_of_methodNamed Bd.named
  have hnm := (name_of_methodNamed Bd.named Bd.method).1
  have hret := Bd.returns
  have hlk : meth.locks = false := BodyLoose.notSynchronized Bd
  have X0 : Stand p l e ({ frames := 8, cells := 0, slots := 0, locals := 114 } : Room) s m #[(.ref am), (.ref ak)] below meth c s₁ [] 0 0 := Stand.of_body Bd
  have e0 : s₁.heap = h0 := by rw [← hh, Bd.state]; rfl
  have N0 := Fr.nil n0
  suffices hgo : Go p e below s ({ frames := 8, cells := 0, slots := 0, locals := 114 } : Room).cells ({ frames := 8, cells := 0, slots := 0, locals := 114 } : Room).slots (Q_rmHb Z am ak kv n1 x1 y1 h0 n0) s₁ (mkF m 0 #[.val (.ref am), .val (.ref ak)] []) from hgo.enter (ef_rmHb m am ak)
  refine Go.step (fun _ k => XS.aloadN X0.here hx rfl (hb hby d7_0) rfl rfl k) ?_
  refine Go.step (fun _ k => XS.aconstNull X0.here hx rfl (hb hby d7_1) k) ?_
  refine Go.step (fun _ k => XS.aloadN X0.here hx rfl (hb hby d7_2) rfl rfl k) ?_
  obtain ⟨cq108, q108, q108'⟩ := Em.cell
  obtain ⟨_, _, ⟨T108, L108, k108, n108⟩, -, X108, ⟨Lc108, hQ108, l108, y108, z108⟩, st108⟩ := X0.privateBack hx (y := (⟨"gatherwick/maps/GwTreeMap", "getIn", "(Lgatherwick/maps/GwTreeMap$SubMap;Ljava/lang/Object;)Ljava/lang/Object;"⟩ : MethodName)) hown (mvT hZ (own_w hw 40 rfl)) (mvT hZ (own_w hw 41 rfl)) (own_selp (mvT hZ (own_w hw 1 rfl)) (Cond.privateMethod_at (mvP hZ (own_w hw 42 rfl) (args := #[]))) (mvT hZ (own_w hw 41 rfl)) (by decide)) (Cond.privateMethod_at (mvP hZ (own_w hw 42 rfl) (args := #[]))) (mvT hZ (own_w hw 43 rfl)) (by decide) (backOf (W := 0) (rmGb l Z a0 hw [] am ak kv n1 x1 y1 h0 n0 Z0 Em Fc Frt Ek Fk n1_key Ex1 Fx1 n1_value) hZ (own_w hw 43 rfl) (own_w hw 2 rfl) (by decide) (by decide)) (g := (mkF m 3 #[.val (.ref am), .val (.ref ak)] [(.ref ak), .null, (.ref am)])) rfl (by rw [hml]; rfl) (Steps.refl _) (a := am) (by rw [e0]; exact q108) q108' (argsL := [.null, (.ref ak)]) (rest := []) (lenOf pd__Lgatherwick_maps_GwTreeMap_SubMap_Ljava_lang_Object__Ljava_lang_Object_ rfl) rfl (by show 2 * 0 + _ ≤ _; exact Nat.le_of_eq rfl) (hb hby d7_3) (fun _ _ => ⟨rfl, e0, (by decide : 0 + 0 ≤ _), (by decide : 0 + 0 ≤ _)⟩)
  dsimp only [Pt.U, Pt.locs, Pt.cells, Pt.slots] at X108 l108 y108 z108 st108 hQ108
  subst l108 y108 z108
  obtain ⟨h108, e108⟩ : ∃ h, T108.heap = h := ⟨_, rfl⟩
  rw [e108] at hQ108
  obtain ⟨rfl, Nq108, hs108⟩ := hQ108
  have N108 := Fr.app N0 Nq108
  rw [hs108] at e108
  refine Go.trans st108 ?_
  show Go _ _ _ _ _ _ _ T108 (mkF m 6 #[.val (.ref am), .val (.ref ak)] [(.ref y1)])
  exact Go.retA X108 hx hret hlk rfl rfl (hb hby d7_6) e108 (by decide) (by decide) ⟨rfl, N108, rfl⟩
theorem d19_0 : decode prog_46_method_80_code 0 = .ok (.aload_n 1, 1) := by decide +kernel
theorem d19_1 : decode prog_46_method_80_code 1 = .ok (.ifnull 13, 3) := by decide +kernel
theorem d19_14 : decode prog_46_method_80_code 14 = .ok (.new 395, 3) := by decide +kernel
theorem d19_17 : decode prog_46_method_80_code 17 = .ok (.dup, 1) := by decide +kernel
theorem d19_18 : decode prog_46_method_80_code 18 = .ok (.invokespecial 427, 3) := by decide +kernel
theorem d19_21 : decode prog_46_method_80_code 21 = .ok (.astore_n 3, 1) := by decide +kernel
theorem d19_22 : decode prog_46_method_80_code 22 = .ok (.aload_n 0, 1) := by decide +kernel
theorem d19_23 : decode prog_46_method_80_code 23 = .ok (.aload_n 2, 1) := by decide +kernel
theorem d19_24 : decode prog_46_method_80_code 24 = .ok (.aload_n 3, 1) := by decide +kernel
theorem d19_25 : decode prog_46_method_80_code 25 = .ok (.aload_n 1, 1) := by decide +kernel
theorem d19_26 : decode prog_46_method_80_code 26 = .ok (.ifnull 10, 3) := by decide +kernel
theorem d19_36 : decode prog_46_method_80_code 36 = .ok (.iconst 1, 1) := by decide +kernel
theorem d19_37 : decode prog_46_method_80_code 37 = .ok (.goto 4, 3) := by decide +kernel
theorem d19_41 : decode prog_46_method_80_code 41 = .ok (.invokevirtual 423, 3) := by decide +kernel
theorem d19_44 : decode prog_46_method_80_code 44 = .ok (.pop, 1) := by decide +kernel
theorem d19_45 : decode prog_46_method_80_code 45 = .ok (.aload_n 3, 1) := by decide +kernel
theorem d19_46 : decode prog_46_method_80_code 46 = .ok (.areturn, 1) := by decide +kernel
theorem ef_rmLo (m : MethodId) (am : Addr) (ak : Addr) : entryFrame m #[(.ref am), .null, (.ref ak)] 4 = mkF m 0 #[.val (.ref am), .val .null, .val (.ref ak), .unset] [] := by first | (simp [entryFrame, mkF, argsToLocals, Value.category]; done) | rfl
def Q_rmLo (Z : State) (am : Addr) (ak : Addr) (kv : Int32) (tr : List (Addr × Addr × Int32)) (vn : Value) (vp : Value) (vl : Int32) (h0 : Heap) (n0 : Nat) (v : Option Value) (h : Heap) (L : List Loc) : Prop := ∃ ap : Addr, (v = some (.ref ap)) ∧ (Fr n0 L) ∧ (Keep h0 h []) ∧ (h0.size ≤ ap) ∧ (Exa Z h ap "gatherwick/maps/GwTreeMap$Place") ∧ (Fld Z h ap "gatherwick/maps/GwTreeMap$Place" "node" "Lgatherwick/maps/RedBlackTree$Node;" vn) ∧ (Fld Z h ap "gatherwick/maps/GwTreeMap$Place" "parent" "Lgatherwick/maps/RedBlackTree$Node;" vp) ∧ (Fld Z h ap "gatherwick/maps/GwTreeMap$Place" "left" "Z" (.int vl))
theorem rmLo (l : Launch) (Z : State) (a0 : Array Value) (hw : ∀ d ∈ tables_1, d.before a0 Z = true) (ws : List Jvm.Cond) (am : Addr) (ak : Addr) (kv : Int32) (tr : List (Addr × Addr × Int32)) (vn : Value) (vp : Value) (vl : Int32) (h0 : Heap) (n0 : Nat) (Z0 : n0 ≤ h0.size) (Em : Exa Z h0 am "gatherwick/maps/GwTreeMap") (Fc : Fld Z h0 am "gatherwick/maps/GwTreeMap" "comparator" "Ljava/util/Comparator;" .null) (Frt : Fld Z h0 am "gatherwick/maps/GwTreeMap" "root" "Lgatherwick/maps/RedBlackTree$Node;" (own_val tr)) (Ek : Exa Z h0 ak "java/lang/Integer") (Fk : Fld Z h0 ak "java/lang/Integer" "value" "I" (.int kv)) (HT : own_HT Z h0 kv tr) (hr_vn : vn.isRef = true) (hn : own_sn kv tr = vn) (hp : own_sp kv tr .null = vp) (hl : own_sl kv tr 0 = vl) :
    MetFree l (⟨"gatherwick/maps/GwTreeMap", "locate", "(Lgatherwick/maps/GwTreeMap$SubMap;Ljava/lang/Object;)Lgatherwick/maps/GwTreeMap$Place;"⟩ : MethodName) (head1 (Jvm.Cond.code (⟨"gatherwick/maps/GwTreeMap", "locate", "(Lgatherwick/maps/GwTreeMap$SubMap;Ljava/lang/Object;)Lgatherwick/maps/GwTreeMap$Place;"⟩ : MethodName) prog_46_method_80_code 4 (some (.object "gatherwick/maps/GwTreeMap$Place")) :: ws) ({ frames := 6, cells := 1, slots := 3, locals := 85 } : Room)) (fun aA U => aA = #[(.ref am), .null, (.ref ak)] ∧ Z.Warmed39 U.vm ∧ U.heap = h0) (fun _ _ _ _ _ => True) (fun _ U o U' => ∃ v L, o = .returned v ∧ Q_rmLo Z am ak kv tr vn vp vl h0 n0 v U'.heap L ∧ FrameEnd U o U' L ({ frames := 6, cells := 1, slots := 3, locals := 85 } : Room).cells ({ frames := 6, cells := 1, slots := 3, locals := 85 } : Room).slots) := by
  refine MetFree.of_bodySF (plainFor_of_name pn_gatherwick_maps_GwTreeMap) hisR ?_
  intro p e s m args below meth c s₁ Bd hml0 hP hK
  obtain ⟨rfl, hZ, hh⟩ := hP
  have hx := Bd.exec
  have hby := Bd.bytes
  have hml : c.maxLocals = 4 := hml0
  have hown : s.vm.findClass "gatherwick/maps/GwTreeMap" = some m.cls := findClass_of_methodNamed Bd.named
  have hnm := (name_of_methodNamed Bd.named Bd.method).1
  have hret := Bd.returns
  have hlk : meth.locks = false := BodyLoose.notSynchronized Bd
  have X0 : Stand p l e ({ frames := 6, cells := 1, slots := 3, locals := 85 } : Room) s m #[(.ref am), .null, (.ref ak)] below meth c s₁ [] 0 0 := Stand.of_body Bd
  have e0 : s₁.heap = h0 := by rw [← hh, Bd.state]; rfl
  have N0 := Fr.nil n0
  suffices hgo : Go p e below s ({ frames := 6, cells := 1, slots := 3, locals := 85 } : Room).cells ({ frames := 6, cells := 1, slots := 3, locals := 85 } : Room).slots (Q_rmLo Z am ak kv tr vn vp vl h0 n0) s₁ (mkF m 0 #[.val (.ref am), .val .null, .val (.ref ak), .unset] []) from hgo.enter (ef_rmLo m am ak)
  refine Go.step (fun _ k => XS.aloadN X0.here hx rfl (hb hby d19_0) rfl rfl k) ?_
  refine Go.step (fun _ k => XS.ifnullYes X0.here hx rfl (pc0 := 1) (pc' := 14) rfl (hb hby d19_1) rfl (by decide) (by decide) k) ?_
  show Go _ _ _ _ _ _ _ s₁ (mkF m 14 #[.val (.ref am), .val .null, .val (.ref ak), .unset] [])
  obtain ⟨T109, h109, X109, e109, E109, A109, D109, -, st109⟩ := newO X0 hx hZ hown (own_w hw 101 rfl) (own_w hw 102 rfl) (own_w hw 103 rfl) e0 (g := (mkF m 14 #[.val (.ref am), .val .null, .val (.ref ak), .unset] [])) rfl (hb hby d19_14) (by decide) (by decide)
  obtain ⟨b109, g109⟩ : ∃ z, z = h0.size := ⟨_, rfl⟩
  rw [← g109] at A109 D109 st109
  refine Go.step st109 ?_
  have g_b109 : n0 ≤ b109 := Nat.le_trans Z0 (Nat.le_of_eq g109.symm)
  have sz_b109 : h0.size ≤ b109 := Nat.le_trans (Keep.refl h0 []).1 (Nat.le_of_eq g109.symm)
  have ne_ak_b109 : ak ≠ b109 := Nat.ne_of_lt (Nat.lt_of_lt_of_le Ek.lt (Nat.le_of_eq g109.symm))
  have ne_am_b109 : am ≠ b109 := Nat.ne_of_lt (Nat.lt_of_lt_of_le Em.lt (Nat.le_of_eq g109.symm))
  have Z109 : n0 ≤ h109.size := Nat.le_trans Z0 E109.1
  have KK109 := (Keep.refl h0 []).ext E109
  have Fnode_109 : Fld Z h109 b109 "gatherwick/maps/GwTreeMap$Place" "node" "Lgatherwick/maps/RedBlackTree$Node;" .null := D109 (Or.inl (own_w hw 109 rfl)) (ty := (.object "gatherwick/maps/RedBlackTree$Node")) (by decide)
  have Fparent_109 : Fld Z h109 b109 "gatherwick/maps/GwTreeMap$Place" "parent" "Lgatherwick/maps/RedBlackTree$Node;" .null := D109 (Or.inl (own_w hw 122 rfl)) (ty := (.object "gatherwick/maps/RedBlackTree$Node")) (by decide)
  have Fleft_109 : Fld Z h109 b109 "gatherwick/maps/GwTreeMap$Place" "left" "Z" (.int (0 : Int32)) := D109 (Or.inl (own_w hw 141 rfl)) (ty := .boolean) (by decide)
  show Go _ _ _ _ _ _ _ T109 (mkF m 17 #[.val (.ref am), .val .null, .val (.ref ak), .unset] [(.ref b109)])
  refine Go.step (fun _ k => XS.dup X109.here hx rfl (hb hby d19_17) rfl rfl k) ?_
  obtain ⟨_, _, ⟨T110, L110, k110, n110⟩, -, X110, ⟨Lc110, hQ110, l110, y110, z110⟩, st110⟩ := own_specialRef X109 hx hZ (y := (⟨"gatherwick/maps/GwTreeMap$Place", "<init>", "()V"⟩ : MethodName)) rfl hown (own_w hw 104 rfl) (own_w hw 105 rfl) (mvT hZ (own_w hw 105 rfl)) (mvT hZ (own_w hw 106 rfl)) (by decide) (backOf (W := 1) (rmPi l Z a0 hw [] b109 h109 n0 Z109 ) hZ (own_w hw 106 rfl) (own_w hw 103 rfl) (by decide) (by decide)) (g := (mkF m 18 #[.val (.ref am), .val .null, .val (.ref ak), .unset] [(.ref b109), (.ref b109)])) rfl (by rw [hml]; rfl) (Steps.refl _) (a := b109) (argsL := []) (rest := [(.ref b109)]) (lenOf pd___V rfl) rfl (by show 2 * 0 + _ ≤ _; exact Nat.le_of_eq rfl) (hb hby d19_18) (fun _ _ => ⟨rfl, e109, (by decide : 1 + 0 ≤ _), (by decide : 3 + 0 ≤ _)⟩)
  dsimp only [Pt.U, Pt.locs, Pt.cells, Pt.slots] at X110 l110 y110 z110 st110 hQ110
  subst l110 y110 z110
  obtain ⟨h110, e110⟩ : ∃ h, T110.heap = h := ⟨_, rfl⟩
  rw [e110] at hQ110
  obtain ⟨rfl, Nq110, hs110⟩ := hQ110
  have N110 := Fr.app N0 Nq110
  rw [hs110] at e110
  refine Go.trans st110 ?_
  show Go _ _ _ _ _ _ _ T110 (mkF m 21 #[.val (.ref am), .val .null, .val (.ref ak), .unset] [(.ref b109)])
  refine Go.step (fun _ k => XS.astoreN X110.here hx rfl (hb hby d19_21) rfl rfl (l' := #[.val (.ref am), .val .null, .val (.ref ak), .val (.ref b109)]) rfl k) ?_
  show Go _ _ _ _ _ _ _ T110 (mkF m 22 #[.val (.ref am), .val .null, .val (.ref ak), .val (.ref b109)] [])
  refine Go.step (fun _ k => XS.aloadN X110.here hx rfl (hb hby d19_22) rfl rfl k) ?_
  refine Go.step (fun _ k => XS.aloadN X110.here hx rfl (hb hby d19_23) rfl rfl k) ?_
  refine Go.step (fun _ k => XS.aloadN X110.here hx rfl (hb hby d19_24) rfl rfl k) ?_
  refine Go.step (fun _ k => XS.aloadN X110.here hx rfl (hb hby d19_25) rfl rfl k) ?_
  refine Go.step (fun _ k => XS.ifnullYes X110.here hx rfl (pc0 := 26) (pc' := 36) rfl (hb hby d19_26) rfl (by decide) (by decide) k) ?_
  show Go _ _ _ _ _ _ _ T110 (mkF m 36 #[.val (.ref am), .val .null, .val (.ref ak), .val (.ref b109)] [(.ref b109), (.ref ak), (.ref am)])
  refine Go.step (fun _ k => XS.iconst X110.here hx rfl (hb hby d19_36) k) ?_
  refine Go.step (fun _ k => XS.goto X110.here hx rfl (pc0 := 37) (pc' := 41) rfl (hb hby d19_37) (by decide) (by decide) k) ?_
  show Go _ _ _ _ _ _ _ T110 (mkF m 41 #[.val (.ref am), .val .null, .val (.ref ak), .val (.ref b109)] [(.int (1 : Int32)), (.ref b109), (.ref ak), (.ref am)])
  have f112 := (Em.ext E109)
  have f113 := (Fc.ext E109)
  have f114 := (Frt.ext E109)
  have f115 := (Ek.ext E109)
  have f116 := (Fk.ext E109)
  have f117 : own_HT Z h109 kv tr := (HT.ext E109)
  obtain ⟨cq111, q111, q111'⟩ := f112.cell
  obtain ⟨_, _, ⟨T111, L111, k111, n111⟩, -, X111, ⟨Lc111, hQ111, l111, y111, z111⟩, st111⟩ := X110.privateBack hx (y := (⟨"gatherwick/maps/GwTreeMap", "search", "(Ljava/lang/Object;Lgatherwick/maps/GwTreeMap$Place;Z)Lgatherwick/maps/RedBlackTree$Node;"⟩ : MethodName)) hown (mvT hZ (own_w hw 48 rfl)) (mvT hZ (own_w hw 49 rfl)) (own_selp (mvT hZ (own_w hw 1 rfl)) (Cond.privateMethod_at (mvP hZ (own_w hw 50 rfl) (args := #[]))) (mvT hZ (own_w hw 49 rfl)) (by decide)) (Cond.privateMethod_at (mvP hZ (own_w hw 50 rfl) (args := #[]))) (mvT hZ (own_w hw 51 rfl)) (by decide) (backOf (W := 0) (rmSe l Z a0 hw [] am ak b109 kv tr vn vp vl h109 n0 Z109 f112 f113 f114 f115 f116 f117 A109 g_b109 Fnode_109 Fparent_109 Fleft_109 hn hp hl) hZ (own_w hw 51 rfl) (own_w hw 2 rfl) (by decide) (by decide)) (g := (mkF m 41 #[.val (.ref am), .val .null, .val (.ref ak), .val (.ref b109)] [(.int (1 : Int32)), (.ref b109), (.ref ak), (.ref am)])) rfl (by rw [hml]; rfl) (Steps.refl _) (a := am) (by rw [e110]; exact q111) q111' (argsL := [(.ref ak), (.ref b109), (.int (1 : Int32))]) (rest := []) (lenOf pd__Ljava_lang_Object_Lgatherwick_maps_GwTreeMap_Place_Z_Lgatherwick_maps_RedBlackTree_Node_ rfl) rfl (by show 2 * 0 + _ ≤ _; exact Nat.le_of_eq rfl) (hb hby d19_41) (fun _ _ => ⟨rfl, e110, (by decide : 1 + 0 ≤ _), (by decide : 3 + 0 ≤ _)⟩)
  dsimp only [Pt.U, Pt.locs, Pt.cells, Pt.slots] at X111 l111 y111 z111 st111 hQ111
  subst l111 y111 z111
  obtain ⟨h111, e111⟩ : ∃ h, T111.heap = h := ⟨_, rfl⟩
  rw [e111] at hQ111
  obtain ⟨rfl, Nq111, Kq111, Qn_111, Qp_111, Ql_111⟩ := hQ111
  have N111 := Fr.app N110 Nq111
  have Z111 : n0 ≤ h111.size := Nat.le_trans Z109 Kq111.1
  have KK111 := KK109.trans Kq111 (allS (Or.inr sz_b109) all0)
  refine Go.trans st111 ?_
  show Go _ _ _ _ _ _ _ T111 (mkF m 44 #[.val (.ref am), .val .null, .val (.ref ak), .val (.ref b109)] [vn])
  refine Go.step (fun _ k => XS.pop X111.here hx rfl (hb hby d19_44) rfl (by rcases ref_cases hr_vn with q | ⟨_, q⟩ <;> rw [q] <;> rfl) k) ?_
  show Go _ _ _ _ _ _ _ T111 (mkF m 45 #[.val (.ref am), .val .null, .val (.ref ak), .val (.ref b109)] [])
  refine Go.step (fun _ k => XS.aloadN X111.here hx rfl (hb hby d19_45) rfl rfl k) ?_
  have f118 := (A109.keep Kq111)
  exact Go.retA X111 hx hret hlk rfl rfl (hb hby d19_46) e111 (by decide) (by decide) ⟨b109, rfl, N111, KK111, sz_b109, f118, Qn_111, Qp_111, Ql_111⟩
theorem d18_0 : decode prog_46_method_81_code 0 = .ok (.aload_n 0, 1) := by decide +kernel
theorem d18_1 : decode prog_46_method_81_code 1 = .ok (.aload_n 1, 1) := by decide +kernel
theorem d18_2 : decode prog_46_method_81_code 2 = .ok (.aload_n 2, 1) := by decide +kernel
theorem d18_3 : decode prog_46_method_81_code 3 = .ok (.invokevirtual 406, 3) := by decide +kernel
theorem d18_6 : decode prog_46_method_81_code 6 = .ok (.astore_n 3, 1) := by decide +kernel
theorem d18_7 : decode prog_46_method_81_code 7 = .ok (.aload_n 3, 1) := by decide +kernel
theorem d18_8 : decode prog_46_method_81_code 8 = .ok (.ifnonnull 8, 3) := by decide +kernel
theorem d18_16 : decode prog_46_method_81_code 16 = .ok (.aload_n 3, 1) := by decide +kernel
theorem d18_17 : decode prog_46_method_81_code 17 = .ok (.areturn, 1) := by decide +kernel
theorem pd__Lgatherwick_maps_GwTreeMap_SubMap_Ljava_lang_Object__Lgatherwick_maps_GwTreeMap_Place_ : parseMethodDescriptor "(Lgatherwick/maps/GwTreeMap$SubMap;Ljava/lang/Object;)Lgatherwick/maps/GwTreeMap$Place;" = some ⟨[(.object "gatherwick/maps/GwTreeMap$SubMap"), (.object "java/lang/Object")], some (.object "gatherwick/maps/GwTreeMap$Place")⟩ := by decide +kernel
theorem ef_rmLa (m : MethodId) (am : Addr) (ak : Addr) : entryFrame m #[(.ref am), .null, (.ref ak)] 4 = mkF m 0 #[.val (.ref am), .val .null, .val (.ref ak), .unset] [] := by first | (simp [entryFrame, mkF, argsToLocals, Value.category]; done) | rfl
def Q_rmLa (Z : State) (am : Addr) (ak : Addr) (kv : Int32) (tr : List (Addr × Addr × Int32)) (vn : Value) (vp : Value) (vl : Int32) (h0 : Heap) (n0 : Nat) (v : Option Value) (h : Heap) (L : List Loc) : Prop := ∃ ap : Addr, (v = some (.ref ap)) ∧ (Fr n0 L) ∧ (Keep h0 h []) ∧ (h0.size ≤ ap) ∧ (Exa Z h ap "gatherwick/maps/GwTreeMap$Place") ∧ (Fld Z h ap "gatherwick/maps/GwTreeMap$Place" "node" "Lgatherwick/maps/RedBlackTree$Node;" vn) ∧ (Fld Z h ap "gatherwick/maps/GwTreeMap$Place" "parent" "Lgatherwick/maps/RedBlackTree$Node;" vp) ∧ (Fld Z h ap "gatherwick/maps/GwTreeMap$Place" "left" "Z" (.int vl))
theorem rmLa (l : Launch) (Z : State) (a0 : Array Value) (hw : ∀ d ∈ tables_1, d.before a0 Z = true) (ws : List Jvm.Cond) (am : Addr) (ak : Addr) (kv : Int32) (tr : List (Addr × Addr × Int32)) (vn : Value) (vp : Value) (vl : Int32) (h0 : Heap) (n0 : Nat) (Z0 : n0 ≤ h0.size) (Em : Exa Z h0 am "gatherwick/maps/GwTreeMap") (Fc : Fld Z h0 am "gatherwick/maps/GwTreeMap" "comparator" "Ljava/util/Comparator;" .null) (Frt : Fld Z h0 am "gatherwick/maps/GwTreeMap" "root" "Lgatherwick/maps/RedBlackTree$Node;" (own_val tr)) (Ek : Exa Z h0 ak "java/lang/Integer") (Fk : Fld Z h0 ak "java/lang/Integer" "value" "I" (.int kv)) (HT : own_HT Z h0 kv tr) (hr_vn : vn.isRef = true) (hn : own_sn kv tr = vn) (hp : own_sp kv tr .null = vp) (hl : own_sl kv tr 0 = vl) :
    MetFree l (⟨"gatherwick/maps/GwTreeMap", "locateToAdd", "(Lgatherwick/maps/GwTreeMap$SubMap;Ljava/lang/Object;)Lgatherwick/maps/GwTreeMap$Place;"⟩ : MethodName) (head1 (Jvm.Cond.code (⟨"gatherwick/maps/GwTreeMap", "locateToAdd", "(Lgatherwick/maps/GwTreeMap$SubMap;Ljava/lang/Object;)Lgatherwick/maps/GwTreeMap$Place;"⟩ : MethodName) prog_46_method_81_code 4 (some (.object "gatherwick/maps/GwTreeMap$Place")) :: ws) ({ frames := 7, cells := 1, slots := 3, locals := 100 } : Room)) (fun aA U => aA = #[(.ref am), .null, (.ref ak)] ∧ Z.Warmed39 U.vm ∧ U.heap = h0) (fun _ _ _ _ _ => True) (fun _ U o U' => ∃ v L, o = .returned v ∧ Q_rmLa Z am ak kv tr vn vp vl h0 n0 v U'.heap L ∧ FrameEnd U o U' L ({ frames := 7, cells := 1, slots := 3, locals := 100 } : Room).cells ({ frames := 7, cells := 1, slots := 3, locals := 100 } : Room).slots) := by
  refine MetFree.of_bodySF (plainFor_of_name pn_gatherwick_maps_GwTreeMap) hisR ?_
  intro p e s m args below meth c s₁ Bd hml0 hP hK
  obtain ⟨rfl, hZ, hh⟩ := hP
  have hx := Bd.exec
  have hby := Bd.bytes
  have hml : c.maxLocals = 4 := hml0
  have hown : s.vm.findClass "gatherwick/maps/GwTreeMap" = some m.cls := findClass_of_methodNamed Bd.named
  have hnm := (name_of_methodNamed Bd.named Bd.method).1
  have hret := Bd.returns
  have hlk : meth.locks = false := BodyLoose.notSynchronized Bd
  have X0 : Stand p l e ({ frames := 7, cells := 1, slots := 3, locals := 100 } : Room) s m #[(.ref am), .null, (.ref ak)] below meth c s₁ [] 0 0 := Stand.of_body Bd
  have e0 : s₁.heap = h0 := by rw [← hh, Bd.state]; rfl
  have N0 := Fr.nil n0
  suffices hgo : Go p e below s ({ frames := 7, cells := 1, slots := 3, locals := 100 } : Room).cells ({ frames := 7, cells := 1, slots := 3, locals := 100 } : Room).slots (Q_rmLa Z am ak kv tr vn vp vl h0 n0) s₁ (mkF m 0 #[.val (.ref am), .val .null, .val (.ref ak), .unset] []) from hgo.enter (ef_rmLa m am ak)
  refine Go.step (fun _ k => XS.aloadN X0.here hx rfl (hb hby d18_0) rfl rfl k) ?_
  refine Go.step (fun _ k => XS.aloadN X0.here hx rfl (hb hby d18_1) rfl rfl k) ?_
  refine Go.step (fun _ k => XS.aloadN X0.here hx rfl (hb hby d18_2) rfl rfl k) ?_
  obtain ⟨cq119, q119, q119'⟩ := Em.cell
  obtain ⟨_, _, ⟨T119, L119, k119, n119⟩, -, X119, ⟨Lc119, hQ119, l119, y119, z119⟩, st119⟩ := X0.privateBack hx (y := (⟨"gatherwick/maps/GwTreeMap", "locate", "(Lgatherwick/maps/GwTreeMap$SubMap;Ljava/lang/Object;)Lgatherwick/maps/GwTreeMap$Place;"⟩ : MethodName)) hown (mvT hZ (own_w hw 97 rfl)) (mvT hZ (own_w hw 98 rfl)) (own_selp (mvT hZ (own_w hw 1 rfl)) (Cond.privateMethod_at (mvP hZ (own_w hw 99 rfl) (args := #[]))) (mvT hZ (own_w hw 98 rfl)) (by decide)) (Cond.privateMethod_at (mvP hZ (own_w hw 99 rfl) (args := #[]))) (mvT hZ (own_w hw 100 rfl)) (by decide) (backOf (W := 0) (rmLo l Z a0 hw [] am ak kv tr vn vp vl h0 n0 Z0 Em Fc Frt Ek Fk HT hr_vn hn hp hl) hZ (own_w hw 100 rfl) (own_w hw 2 rfl) (by decide) (by decide)) (g := (mkF m 3 #[.val (.ref am), .val .null, .val (.ref ak), .unset] [(.ref ak), .null, (.ref am)])) rfl (by rw [hml]; rfl) (Steps.refl _) (a := am) (by rw [e0]; exact q119) q119' (argsL := [.null, (.ref ak)]) (rest := []) (lenOf pd__Lgatherwick_maps_GwTreeMap_SubMap_Ljava_lang_Object__Lgatherwick_maps_GwTreeMap_Place_ rfl) rfl (by show 2 * 0 + _ ≤ _; exact Nat.le_of_eq rfl) (hb hby d18_3) (fun _ _ => ⟨rfl, e0, (by decide : 0 + 1 ≤ _), (by decide : 0 + 3 ≤ _)⟩)
  dsimp only [Pt.U, Pt.locs, Pt.cells, Pt.slots] at X119 l119 y119 z119 st119 hQ119
  subst l119 y119 z119
  obtain ⟨h119, e119⟩ : ∃ h, T119.heap = h := ⟨_, rfl⟩
  rw [e119] at hQ119
  obtain ⟨ap_119, rfl, Nq119, Kq119, sz__119, Ep_119, Qn_119, Qp_119, Ql_119⟩ := hQ119
  have N119 := Fr.app N0 Nq119
  have Z119 : n0 ≤ h119.size := Nat.le_trans Z0 Kq119.1
  have KK119 := (Keep.refl h0 []).trans Kq119 all0
  have g_ap_119 : n0 ≤ ap_119 := Nat.le_trans Z0 sz__119
  have sz_ap_119 : h0.size ≤ ap_119 := Nat.le_trans (Keep.refl h0 []).1 sz__119
  have ne_ak_ap_119 : ak ≠ ap_119 := Nat.ne_of_lt (Nat.lt_of_lt_of_le Ek.lt sz__119)
  have ne_am_ap_119 : am ≠ ap_119 := Nat.ne_of_lt (Nat.lt_of_lt_of_le Em.lt sz__119)
  refine Go.trans st119 ?_
  show Go _ _ _ _ _ _ _ T119 (mkF m 6 #[.val (.ref am), .val .null, .val (.ref ak), .unset] [(.ref ap_119)])
  refine Go.step (fun _ k => XS.astoreN X119.here hx rfl (hb hby d18_6) rfl rfl (l' := #[.val (.ref am), .val .null, .val (.ref ak), .val (.ref ap_119)]) rfl k) ?_
  show Go _ _ _ _ _ _ _ T119 (mkF m 7 #[.val (.ref am), .val .null, .val (.ref ak), .val (.ref ap_119)] [])
  refine Go.step (fun _ k => XS.aloadN X119.here hx rfl (hb hby d18_7) rfl rfl k) ?_
  refine Go.step (fun _ k => XS.ifnonnullYes X119.here hx rfl (pc0 := 8) (pc' := 16) rfl (hb hby d18_8) rfl (by decide) (by decide) k) ?_
  show Go _ _ _ _ _ _ _ T119 (mkF m 16 #[.val (.ref am), .val .null, .val (.ref ak), .val (.ref ap_119)] [])
  refine Go.step (fun _ k => XS.aloadN X119.here hx rfl (hb hby d18_16) rfl rfl k) ?_
  exact Go.retA X119 hx hret hlk rfl rfl (hb hby d18_17) e119 (by decide) (by decide) ⟨ap_119, rfl, N119, KK119, sz_ap_119, Ep_119, Qn_119, Qp_119, Ql_119⟩
theorem d27_0 : decode prog_57_method_8_code 0 = .ok (.aload_n 0, 1) := by decide +kernel
theorem d27_1 : decode prog_57_method_8_code 1 = .ok (.ifnull 14, 3) := by decide +kernel
theorem d27_4 : decode prog_57_method_8_code 4 = .ok (.aload_n 0, 1) := by decide +kernel
theorem d27_5 : decode prog_57_method_8_code 5 = .ok (.getfield 29, 3) := by decide +kernel
theorem d27_8 : decode prog_57_method_8_code 8 = .ok (.ifCond .eq 7, 3) := by decide +kernel
theorem d27_11 : decode prog_57_method_8_code 11 = .ok (.iconst 1, 1) := by decide +kernel
theorem d27_12 : decode prog_57_method_8_code 12 = .ok (.goto 4, 3) := by decide +kernel
theorem d27_15 : decode prog_57_method_8_code 15 = .ok (.iconst 0, 1) := by decide +kernel
theorem d27_16 : decode prog_57_method_8_code 16 = .ok (.ireturn, 1) := by decide +kernel
theorem pn_gatherwick_maps_RedBlackTree : plainName "gatherwick/maps/RedBlackTree" = true := by first | (simp [plainName, overriddenIn]; done) | decide +kernel
theorem ef_rmRn (m : MethodId)  : entryFrame m #[.null] 1 = mkF m 0 #[.val .null] [] := by first | (simp [entryFrame, mkF, argsToLocals, Value.category]; done) | rfl
def Q_rmRn (Z : State)  (h0 : Heap) (n0 : Nat) (v : Option Value) (h : Heap) (L : List Loc) : Prop := (v = some (.int (0 : Int32))) ∧ (Fr n0 L) ∧ (h = h0)
theorem rmRn (l : Launch) (Z : State) (a0 : Array Value) (hw : ∀ d ∈ tables_1, d.before a0 Z = true) (ws : List Jvm.Cond)  (h0 : Heap) (n0 : Nat) (Z0 : n0 ≤ h0.size) :
    MetFree l (⟨"gatherwick/maps/RedBlackTree", "isRed", "(Lgatherwick/maps/RedBlackTree$Node;)Z"⟩ : MethodName) (head1 (Jvm.Cond.code (⟨"gatherwick/maps/RedBlackTree", "isRed", "(Lgatherwick/maps/RedBlackTree$Node;)Z"⟩ : MethodName) prog_57_method_8_code 1 (some .boolean) :: ws) ({ frames := 0, cells := 0, slots := 0, locals := 0 } : Room)) (fun aA U => aA = #[.null] ∧ Z.Warmed39 U.vm ∧ U.heap = h0) (fun _ _ _ _ _ => True) (fun _ U o U' => ∃ v L, o = .returned v ∧ Q_rmRn Z  h0 n0 v U'.heap L ∧ FrameEnd U o U' L ({ frames := 0, cells := 0, slots := 0, locals := 0 } : Room).cells ({ frames := 0, cells := 0, slots := 0, locals := 0 } : Room).slots) := by
  refine MetFree.of_bodySF (plainFor_of_name pn_gatherwick_maps_RedBlackTree) hisR ?_
  intro p e s m args below meth c s₁ Bd hml0 hP hK
  obtain ⟨rfl, hZ, hh⟩ := hP
  have hx := Bd.exec
  have hby := Bd.bytes
  have hml : c.maxLocals = 1 := hml0
  have hown : s.vm.findClass "gatherwick/maps/RedBlackTree" = some m.cls := findClass_of_methodNamed Bd.named
  have hnm := (name_of_methodNamed Bd.named Bd.method).1
  have hret := Bd.returns
  have hlk : meth.locks = false := BodyLoose.notSynchronized Bd
  have X0 : Stand p l e ({ frames := 0, cells := 0, slots := 0, locals := 0 } : Room) s m #[.null] below meth c s₁ [] 0 0 := Stand.of_body Bd
  have e0 : s₁.heap = h0 := by rw [← hh, Bd.state]; rfl
  have N0 := Fr.nil n0
  suffices hgo : Go p e below s ({ frames := 0, cells := 0, slots := 0, locals := 0 } : Room).cells ({ frames := 0, cells := 0, slots := 0, locals := 0 } : Room).slots (Q_rmRn Z  h0 n0) s₁ (mkF m 0 #[.val .null] []) from hgo.enter (ef_rmRn m )
  refine Go.step (fun _ k => XS.aloadN X0.here hx rfl (hb hby d27_0) rfl rfl k) ?_
  refine Go.step (fun _ k => XS.ifnullYes X0.here hx rfl (pc0 := 1) (pc' := 15) rfl (hb hby d27_1) rfl (by decide) (by decide) k) ?_
  show Go _ _ _ _ _ _ _ s₁ (mkF m 15 #[.val .null] [])
  refine Go.step (fun _ k => XS.iconst X0.here hx rfl (hb hby d27_15) k) ?_
  exact Go.retN X0 hx (t := .boolean) hret hlk (by simp) (hb hby d27_16) e0 (by decide) (by decide) ⟨rfl, N0, rfl⟩
theorem ef_rmRz (m : MethodId) (an : Addr) : entryFrame m #[(.ref an)] 1 = mkF m 0 #[.val (.ref an)] [] := by first | (simp [entryFrame, mkF, argsToLocals, Value.category]; done) | rfl
def Q_rmRz (Z : State) (an : Addr) (h0 : Heap) (n0 : Nat) (v : Option Value) (h : Heap) (L : List Loc) : Prop := (v = some (.int (0 : Int32))) ∧ (Fr n0 L) ∧ (h = h0)
theorem rmRz (l : Launch) (Z : State) (a0 : Array Value) (hw : ∀ d ∈ tables_1, d.before a0 Z = true) (ws : List Jvm.Cond) (an : Addr) (h0 : Heap) (n0 : Nat) (Z0 : n0 ≤ h0.size) (a_red : Fld Z h0 an "gatherwick/maps/RedBlackTree$Node" "red" "Z" (.int (0 : Int32))) :
    MetFree l (⟨"gatherwick/maps/RedBlackTree", "isRed", "(Lgatherwick/maps/RedBlackTree$Node;)Z"⟩ : MethodName) (head1 (Jvm.Cond.code (⟨"gatherwick/maps/RedBlackTree", "isRed", "(Lgatherwick/maps/RedBlackTree$Node;)Z"⟩ : MethodName) prog_57_method_8_code 1 (some .boolean) :: ws) ({ frames := 0, cells := 0, slots := 0, locals := 0 } : Room)) (fun aA U => aA = #[(.ref an)] ∧ Z.Warmed39 U.vm ∧ U.heap = h0) (fun _ _ _ _ _ => True) (fun _ U o U' => ∃ v L, o = .returned v ∧ Q_rmRz Z an h0 n0 v U'.heap L ∧ FrameEnd U o U' L ({ frames := 0, cells := 0, slots := 0, locals := 0 } : Room).cells ({ frames := 0, cells := 0, slots := 0, locals := 0 } : Room).slots) := by
  refine MetFree.of_bodySF (plainFor_of_name pn_gatherwick_maps_RedBlackTree) hisR ?_
  intro p e s m args below meth c s₁ Bd hml0 hP hK
  obtain ⟨rfl, hZ, hh⟩ := hP
  have hx := Bd.exec
  have hby := Bd.bytes
  have hml : c.maxLocals = 1 := hml0
  have hown : s.vm.findClass "gatherwick/maps/RedBlackTree" = some m.cls := findClass_of_methodNamed Bd.named
  have hnm := (name_of_methodNamed Bd.named Bd.method).1
  have hret := Bd.returns
  have hlk : meth.locks = false := BodyLoose.notSynchronized Bd
  have X0 : Stand p l e ({ frames := 0, cells := 0, slots := 0, locals := 0 } : Room) s m #[(.ref an)] below meth c s₁ [] 0 0 := Stand.of_body Bd
  have e0 : s₁.heap = h0 := by rw [← hh, Bd.state]; rfl
  have N0 := Fr.nil n0
  suffices hgo : Go p e below s ({ frames := 0, cells := 0, slots := 0, locals := 0 } : Room).cells ({ frames := 0, cells := 0, slots := 0, locals := 0 } : Room).slots (Q_rmRz Z an h0 n0) s₁ (mkF m 0 #[.val (.ref an)] []) from hgo.enter (ef_rmRz m an)
  refine Go.step (fun _ k => XS.aloadN X0.here hx rfl (hb hby d27_0) rfl rfl k) ?_
  refine Go.step (fun _ k => XS.ifnullNo X0.here hx rfl (hb hby d27_1) rfl k) ?_
  show Go _ _ _ _ _ _ _ s₁ (mkF m 4 #[.val (.ref an)] [])
  refine Go.step (fun _ k => XS.aloadN X0.here hx rfl (hb hby d27_4) rfl rfl k) ?_
  obtain ⟨T120, X120, e120, st120⟩ := getF X0 hx hZ hown (host := "") (Or.inl (own_w hw 153 rfl)) Via.refl e0 a_red (g := (mkF m 5 #[.val (.ref an)] [(.ref an)])) rfl rfl (hb hby d27_5)
  refine Go.step st120 ?_
  show Go _ _ _ _ _ _ _ T120 (mkF m 8 #[.val (.ref an)] [(.int (0 : Int32))])
  have hc8_121 : (0 : Int32) = (0 : Int32) := (by decide)
  refine Go.step (fun _ k => XS.ifYes X120.here hx rfl (pc0 := 8) (pc' := 15) rfl (hb hby d27_8) rfl ((if0 _ _).trans (teq hc8_121).1) (by decide) (by decide) k) ?_
  show Go _ _ _ _ _ _ _ T120 (mkF m 15 #[.val (.ref an)] [])
  refine Go.step (fun _ k => XS.iconst X120.here hx rfl (hb hby d27_15) k) ?_
  exact Go.retN X120 hx (t := .boolean) hret hlk (by simp) (hb hby d27_16) e120 (by decide) (by decide) ⟨rfl, N0, rfl⟩
theorem ef_rmRo (m : MethodId) (an : Addr) : entryFrame m #[(.ref an)] 1 = mkF m 0 #[.val (.ref an)] [] := by first | (simp [entryFrame, mkF, argsToLocals, Value.category]; done) | rfl
def Q_rmRo (Z : State) (an : Addr) (h0 : Heap) (n0 : Nat) (v : Option Value) (h : Heap) (L : List Loc) : Prop := (v = some (.int (1 : Int32))) ∧ (Fr n0 L) ∧ (h = h0)
theorem rmRo (l : Launch) (Z : State) (a0 : Array Value) (hw : ∀ d ∈ tables_1, d.before a0 Z = true) (ws : List Jvm.Cond) (an : Addr) (h0 : Heap) (n0 : Nat) (Z0 : n0 ≤ h0.size) (a_red : Fld Z h0 an "gatherwick/maps/RedBlackTree$Node" "red" "Z" (.int (1 : Int32))) :
    MetFree l (⟨"gatherwick/maps/RedBlackTree", "isRed", "(Lgatherwick/maps/RedBlackTree$Node;)Z"⟩ : MethodName) (head1 (Jvm.Cond.code (⟨"gatherwick/maps/RedBlackTree", "isRed", "(Lgatherwick/maps/RedBlackTree$Node;)Z"⟩ : MethodName) prog_57_method_8_code 1 (some .boolean) :: ws) ({ frames := 0, cells := 0, slots := 0, locals := 0 } : Room)) (fun aA U => aA = #[(.ref an)] ∧ Z.Warmed39 U.vm ∧ U.heap = h0) (fun _ _ _ _ _ => True) (fun _ U o U' => ∃ v L, o = .returned v ∧ Q_rmRo Z an h0 n0 v U'.heap L ∧ FrameEnd U o U' L ({ frames := 0, cells := 0, slots := 0, locals := 0 } : Room).cells ({ frames := 0, cells := 0, slots := 0, locals := 0 } : Room).slots) := by
  refine MetFree.of_bodySF (plainFor_of_name pn_gatherwick_maps_RedBlackTree) hisR ?_
  intro p e s m args below meth c s₁ Bd hml0 hP hK
  obtain ⟨rfl, hZ, hh⟩ := hP
  have hx := Bd.exec
  have hby := Bd.bytes
  have hml : c.maxLocals = 1 := hml0
  have hown : s.vm.findClass "gatherwick/maps/RedBlackTree" = some m.cls := findClass_of_methodNamed Bd.named
  have hnm := (name_of_methodNamed Bd.named Bd.method).1
  have hret := Bd.returns
  have hlk : meth.locks = false := BodyLoose.notSynchronized Bd
  have X0 : Stand p l e ({ frames := 0, cells := 0, slots := 0, locals := 0 } : Room) s m #[(.ref an)] below meth c s₁ [] 0 0 := Stand.of_body Bd
  have e0 : s₁.heap = h0 := by rw [← hh, Bd.state]; rfl
  have N0 := Fr.nil n0
  suffices hgo : Go p e below s ({ frames := 0, cells := 0, slots := 0, locals := 0 } : Room).cells ({ frames := 0, cells := 0, slots := 0, locals := 0 } : Room).slots (Q_rmRo Z an h0 n0) s₁ (mkF m 0 #[.val (.ref an)] []) from hgo.enter (ef_rmRo m an)
  refine Go.step (fun _ k => XS.aloadN X0.here hx rfl (hb hby d27_0) rfl rfl k) ?_
  refine Go.step (fun _ k => XS.ifnullNo X0.here hx rfl (hb hby d27_1) rfl k) ?_
  show Go _ _ _ _ _ _ _ s₁ (mkF m 4 #[.val (.ref an)] [])
  refine Go.step (fun _ k => XS.aloadN X0.here hx rfl (hb hby d27_4) rfl rfl k) ?_
  obtain ⟨T122, X122, e122, st122⟩ := getF X0 hx hZ hown (host := "") (Or.inl (own_w hw 153 rfl)) Via.refl e0 a_red (g := (mkF m 5 #[.val (.ref an)] [(.ref an)])) rfl rfl (hb hby d27_5)
  refine Go.step st122 ?_
  show Go _ _ _ _ _ _ _ T122 (mkF m 8 #[.val (.ref an)] [(.int (1 : Int32))])
  have hc8_123 : ¬ ((1 : Int32) = (0 : Int32)) := (by decide)
  refine Go.step (fun _ k => XS.ifNo X122.here hx rfl (hb hby d27_8) rfl ((if0 _ _).trans (feq hc8_123).1) k) ?_
  show Go _ _ _ _ _ _ _ T122 (mkF m 11 #[.val (.ref an)] [])
  refine Go.step (fun _ k => XS.iconst X122.here hx rfl (hb hby d27_11) k) ?_
  refine Go.step (fun _ k => XS.goto X122.here hx rfl (pc0 := 12) (pc' := 16) rfl (hb hby d27_12) (by decide) (by decide) k) ?_
  show Go _ _ _ _ _ _ _ T122 (mkF m 16 #[.val (.ref an)] [(.int (1 : Int32))])
  exact Go.retN X122 hx (t := .boolean) hret hlk (by simp) (hb hby d27_16) e122 (by decide) (by decide) ⟨rfl, N0, rfl⟩
theorem d32_0 : decode prog_57_method_9_code 0 = .ok (.aload_n 1, 1) := by decide +kernel
theorem d32_1 : decode prog_57_method_9_code 1 = .ok (.getfield 7, 3) := by decide +kernel
theorem d32_4 : decode prog_57_method_9_code 4 = .ok (.astore_n 3, 1) := by decide +kernel
theorem d32_5 : decode prog_57_method_9_code 5 = .ok (.aload_n 3, 1) := by decide +kernel
theorem d32_6 : decode prog_57_method_9_code 6 = .ok (.ifnonnull 8, 3) := by decide +kernel
theorem d32_9 : decode prog_57_method_9_code 9 = .ok (.aload_n 2, 1) := by decide +kernel
theorem d32_10 : decode prog_57_method_9_code 10 = .ok (.astore_n 0, 1) := by decide +kernel
theorem d32_11 : decode prog_57_method_9_code 11 = .ok (.goto 24, 3) := by decide +kernel
theorem d32_14 : decode prog_57_method_9_code 14 = .ok (.aload_n 1, 1) := by decide +kernel
theorem d32_15 : decode prog_57_method_9_code 15 = .ok (.aload_n 3, 1) := by decide +kernel
theorem d32_16 : decode prog_57_method_9_code 16 = .ok (.getfield 13, 3) := by decide +kernel
theorem d32_19 : decode prog_57_method_9_code 19 = .ok (.if_acmp .ne 11, 3) := by decide +kernel
theorem d32_22 : decode prog_57_method_9_code 22 = .ok (.aload_n 3, 1) := by decide +kernel
theorem d32_23 : decode prog_57_method_9_code 23 = .ok (.aload_n 2, 1) := by decide +kernel
theorem d32_24 : decode prog_57_method_9_code 24 = .ok (.putfield 13, 3) := by decide +kernel
theorem d32_27 : decode prog_57_method_9_code 27 = .ok (.goto 8, 3) := by decide +kernel
theorem d32_30 : decode prog_57_method_9_code 30 = .ok (.aload_n 3, 1) := by decide +kernel
theorem d32_31 : decode prog_57_method_9_code 31 = .ok (.aload_n 2, 1) := by decide +kernel
theorem d32_32 : decode prog_57_method_9_code 32 = .ok (.putfield 16, 3) := by decide +kernel
theorem d32_35 : decode prog_57_method_9_code 35 = .ok (.aload_n 2, 1) := by decide +kernel
theorem d32_36 : decode prog_57_method_9_code 36 = .ok (.ifnull 8, 3) := by decide +kernel
theorem d32_39 : decode prog_57_method_9_code 39 = .ok (.aload_n 2, 1) := by decide +kernel
theorem d32_40 : decode prog_57_method_9_code 40 = .ok (.aload_n 3, 1) := by decide +kernel
theorem d32_41 : decode prog_57_method_9_code 41 = .ok (.putfield 7, 3) := by decide +kernel
theorem d32_44 : decode prog_57_method_9_code 44 = .ok (.aload_n 0, 1) := by decide +kernel
theorem d32_45 : decode prog_57_method_9_code 45 = .ok (.areturn, 1) := by decide +kernel
theorem ef_rmRt (m : MethodId) (ar : Addr) (nn : Addr) (x1 : Addr) : entryFrame m #[(.ref ar), (.ref nn), (.ref x1)] 4 = mkF m 0 #[.val (.ref ar), .val (.ref nn), .val (.ref x1), .unset] [] := by first | (simp [entryFrame, mkF, argsToLocals, Value.category]; done) | rfl
def Q_rmRt (Z : State) (ar : Addr) (nn : Addr) (x1 : Addr) (vp1 : Value) (vl1 : Value) (vr1 : Value) (rx : Int32) (h0 : Heap) (n0 : Nat) (v : Option Value) (h : Heap) (L : List Loc) : Prop := (v = some (.ref x1)) ∧ (Fr n0 L) ∧ (Keep h0 h [x1]) ∧ (Fld Z h x1 "gatherwick/maps/RedBlackTree$Node" "left" "Lgatherwick/maps/RedBlackTree$Node;" vl1) ∧ (Fld Z h x1 "gatherwick/maps/RedBlackTree$Node" "right" "Lgatherwick/maps/RedBlackTree$Node;" vr1) ∧ (Fld Z h x1 "gatherwick/maps/RedBlackTree$Node" "parent" "Lgatherwick/maps/RedBlackTree$Node;" .null) ∧ (Fld Z h x1 "gatherwick/maps/RedBlackTree$Node" "red" "Z" (.int rx))
theorem rmRt (l : Launch) (Z : State) (a0 : Array Value) (hw : ∀ d ∈ tables_1, d.before a0 Z = true) (ws : List Jvm.Cond) (ar : Addr) (nn : Addr) (x1 : Addr) (vp1 : Value) (vl1 : Value) (vr1 : Value) (rx : Int32) (h0 : Heap) (n0 : Nat) (Z0 : n0 ≤ h0.size) (E_x1 : Exa Z h0 x1 "gatherwick/maps/RedBlackTree$Node") (g_x1 : n0 ≤ x1) (n_parent : Fld Z h0 nn "gatherwick/maps/RedBlackTree$Node" "parent" "Lgatherwick/maps/RedBlackTree$Node;" .null) (x_left : Fld Z h0 x1 "gatherwick/maps/RedBlackTree$Node" "left" "Lgatherwick/maps/RedBlackTree$Node;" vl1) (x_right : Fld Z h0 x1 "gatherwick/maps/RedBlackTree$Node" "right" "Lgatherwick/maps/RedBlackTree$Node;" vr1) (x_parent : Fld Z h0 x1 "gatherwick/maps/RedBlackTree$Node" "parent" "Lgatherwick/maps/RedBlackTree$Node;" vp1) (x_red : Fld Z h0 x1 "gatherwick/maps/RedBlackTree$Node" "red" "Z" (.int rx)) :
    MetFree l (⟨"gatherwick/maps/RedBlackTree", "replace", "(Lgatherwick/maps/RedBlackTree$Node;Lgatherwick/maps/RedBlackTree$Node;Lgatherwick/maps/RedBlackTree$Node;)Lgatherwick/maps/RedBlackTree$Node;"⟩ : MethodName) (head1 (Jvm.Cond.code (⟨"gatherwick/maps/RedBlackTree", "replace", "(Lgatherwick/maps/RedBlackTree$Node;Lgatherwick/maps/RedBlackTree$Node;Lgatherwick/maps/RedBlackTree$Node;)Lgatherwick/maps/RedBlackTree$Node;"⟩ : MethodName) prog_57_method_9_code 4 (some (.object "gatherwick/maps/RedBlackTree$Node")) :: ws) ({ frames := 0, cells := 0, slots := 0, locals := 0 } : Room)) (fun aA U => aA = #[(.ref ar), (.ref nn), (.ref x1)] ∧ Z.Warmed39 U.vm ∧ U.heap = h0) (fun _ _ _ _ _ => True) (fun _ U o U' => ∃ v L, o = .returned v ∧ Q_rmRt Z ar nn x1 vp1 vl1 vr1 rx h0 n0 v U'.heap L ∧ FrameEnd U o U' L ({ frames := 0, cells := 0, slots := 0, locals := 0 } : Room).cells ({ frames := 0, cells := 0, slots := 0, locals := 0 } : Room).slots) := by
  refine MetFree.of_bodySF (plainFor_of_name pn_gatherwick_maps_RedBlackTree) hisR ?_
  intro p e s m args below meth c s₁ Bd hml0 hP hK
  obtain ⟨rfl, hZ, hh⟩ := hP
  have hx := Bd.exec
  have hby := Bd.bytes
  have hml : c.maxLocals = 4 := hml0
  have hown : s.vm.findClass "gatherwick/maps/RedBlackTree" = some m.cls := findClass_of_methodNamed Bd.named
  have hnm := (name_of_methodNamed Bd.named Bd.method).1
  have hret := Bd.returns
  have hlk : meth.locks = false := BodyLoose.notSynchronized Bd
  have X0 : Stand p l e ({ frames := 0, cells := 0, slots := 0, locals := 0 } : Room) s m #[(.ref ar), (.ref nn), (.ref x1)] below meth c s₁ [] 0 0 := Stand.of_body Bd
  have e0 : s₁.heap = h0 := by rw [← hh, Bd.state]; rfl
  have N0 := Fr.nil n0
  suffices hgo : Go p e below s ({ frames := 0, cells := 0, slots := 0, locals := 0 } : Room).cells ({ frames := 0, cells := 0, slots := 0, locals := 0 } : Room).slots (Q_rmRt Z ar nn x1 vp1 vl1 vr1 rx h0 n0) s₁ (mkF m 0 #[.val (.ref ar), .val (.ref nn), .val (.ref x1), .unset] []) from hgo.enter (ef_rmRt m ar nn x1)
  refine Go.step (fun _ k => XS.aloadN X0.here hx rfl (hb hby d32_0) rfl rfl k) ?_
  obtain ⟨T124, X124, e124, st124⟩ := getF X0 hx hZ hown (host := "") (Or.inl (own_w hw 146 rfl)) Via.refl e0 n_parent (g := (mkF m 1 #[.val (.ref ar), .val (.ref nn), .val (.ref x1), .unset] [(.ref nn)])) rfl rfl (hb hby d32_1)
  refine Go.step st124 ?_
  show Go _ _ _ _ _ _ _ T124 (mkF m 4 #[.val (.ref ar), .val (.ref nn), .val (.ref x1), .unset] [.null])
  refine Go.step (fun _ k => XS.astoreN X124.here hx rfl (hb hby d32_4) rfl rfl (l' := #[.val (.ref ar), .val (.ref nn), .val (.ref x1), .val .null]) rfl k) ?_
  show Go _ _ _ _ _ _ _ T124 (mkF m 5 #[.val (.ref ar), .val (.ref nn), .val (.ref x1), .val .null] [])
  refine Go.step (fun _ k => XS.aloadN X124.here hx rfl (hb hby d32_5) rfl rfl k) ?_
  refine Go.step (fun _ k => XS.ifnonnullNo X124.here hx rfl (hb hby d32_6) rfl k) ?_
  show Go _ _ _ _ _ _ _ T124 (mkF m 9 #[.val (.ref ar), .val (.ref nn), .val (.ref x1), .val .null] [])
  refine Go.step (fun _ k => XS.aloadN X124.here hx rfl (hb hby d32_9) rfl rfl k) ?_
  refine Go.step (fun _ k => XS.astoreN X124.here hx rfl (hb hby d32_10) rfl rfl (l' := #[.val (.ref x1), .val (.ref nn), .val (.ref x1), .val .null]) rfl k) ?_
  show Go _ _ _ _ _ _ _ T124 (mkF m 11 #[.val (.ref x1), .val (.ref nn), .val (.ref x1), .val .null] [])
  refine Go.step (fun _ k => XS.goto X124.here hx rfl (pc0 := 11) (pc' := 35) rfl (hb hby d32_11) (by decide) (by decide) k) ?_
  show Go _ _ _ _ _ _ _ T124 (mkF m 35 #[.val (.ref x1), .val (.ref nn), .val (.ref x1), .val .null] [])
  refine Go.step (fun _ k => XS.aloadN X124.here hx rfl (hb hby d32_35) rfl rfl k) ?_
  refine Go.step (fun _ k => XS.ifnullNo X124.here hx rfl (hb hby d32_36) rfl k) ?_
  show Go _ _ _ _ _ _ _ T124 (mkF m 39 #[.val (.ref x1), .val (.ref nn), .val (.ref x1), .val .null] [])
  refine Go.step (fun _ k => XS.aloadN X124.here hx rfl (hb hby d32_39) rfl rfl k) ?_
  refine Go.step (fun _ k => XS.aloadN X124.here hx rfl (hb hby d32_40) rfl rfl k) ?_
  obtain ⟨T125, h125, X125, e125, W125, st125⟩ := putF X124 hx hZ hown (host := "") (Or.inl (own_w hw 146 rfl)) Via.refl e124 x_parent E_x1 (Or.inl (own_w hw 139 rfl)) (own_w hw 119 rfl) (ty := (.object "gatherwick/maps/RedBlackTree$Node")) (by decide) rfl rfl (g := (mkF m 41 #[.val (.ref x1), .val (.ref nn), .val (.ref x1), .val .null] [.null, (.ref x1)])) rfl rfl (hb hby d32_41)
  refine Go.step st125 ?_
  have Fw125 := x_parent.same W125
  have N125 := Fr.snoc X125 N0 g_x1
  have Z125 : n0 ≤ h125.size := Nat.le_trans Z0 (Keep.of_wr W125).1
  have KK125 := (Keep.refl h0 [x1]).wr W125 (Or.inl (List.mem_of_getElem? (i := 0) rfl))
  show Go _ _ _ _ _ _ _ T125 (mkF m 44 #[.val (.ref x1), .val (.ref nn), .val (.ref x1), .val .null] [])
  refine Go.step (fun _ k => XS.aloadN X125.here hx rfl (hb hby d32_44) rfl rfl k) ?_
  have f126 := (x_left.other W125 (Or.inr (slot_ne (a0 := a0) (C := "gatherwick/maps/RedBlackTree$Node") (Or.inl (own_w hw 179 rfl)) (Or.inl (own_w hw 139 rfl)) (by decide) (t := (.object "gatherwick/maps/RedBlackTree$Node")) (t' := (.object "gatherwick/maps/RedBlackTree$Node")) (by decide) (by decide))))
  have f127 := (x_right.other W125 (Or.inr (slot_ne (a0 := a0) (C := "gatherwick/maps/RedBlackTree$Node") (Or.inl (own_w hw 176 rfl)) (Or.inl (own_w hw 139 rfl)) (by decide) (t := (.object "gatherwick/maps/RedBlackTree$Node")) (t' := (.object "gatherwick/maps/RedBlackTree$Node")) (by decide) (by decide))))
  have f128 := (x_red.other W125 (Or.inr (slot_ne (a0 := a0) (C := "gatherwick/maps/RedBlackTree$Node") (Or.inl (own_w hw 133 rfl)) (Or.inl (own_w hw 139 rfl)) (by decide) (t := .boolean) (t' := (.object "gatherwick/maps/RedBlackTree$Node")) (by decide) (by decide))))
  exact Go.retA X125 hx hret hlk rfl rfl (hb hby d32_45) e125 (by decide) (by decide) ⟨rfl, N125, KK125, f126, f127, Fw125, f128⟩
theorem ef_rmRl (m : MethodId) (ar : Addr) (nn : Addr) (x1 : Addr) : entryFrame m #[(.ref ar), (.ref nn), (.ref x1)] 4 = mkF m 0 #[.val (.ref ar), .val (.ref nn), .val (.ref x1), .unset] [] := by first | (simp [entryFrame, mkF, argsToLocals, Value.category]; done) | rfl
def Q_rmRl (Z : State) (ar : Addr) (nn : Addr) (x1 : Addr) (g1 : Addr) (vgo : Value) (vgp : Value) (rg : Int32) (vp1 : Value) (vl1 : Value) (vr1 : Value) (rx : Int32) (h0 : Heap) (n0 : Nat) (v : Option Value) (h : Heap) (L : List Loc) : Prop := (v = some (.ref ar)) ∧ (Fr n0 L) ∧ (Keep h0 h [g1, x1]) ∧ (Fld Z h g1 "gatherwick/maps/RedBlackTree$Node" "left" "Lgatherwick/maps/RedBlackTree$Node;" (.ref x1)) ∧ (Fld Z h g1 "gatherwick/maps/RedBlackTree$Node" "right" "Lgatherwick/maps/RedBlackTree$Node;" vgo) ∧ (Fld Z h g1 "gatherwick/maps/RedBlackTree$Node" "parent" "Lgatherwick/maps/RedBlackTree$Node;" vgp) ∧ (Fld Z h g1 "gatherwick/maps/RedBlackTree$Node" "red" "Z" (.int rg)) ∧ (Fld Z h x1 "gatherwick/maps/RedBlackTree$Node" "left" "Lgatherwick/maps/RedBlackTree$Node;" vl1) ∧ (Fld Z h x1 "gatherwick/maps/RedBlackTree$Node" "right" "Lgatherwick/maps/RedBlackTree$Node;" vr1) ∧ (Fld Z h x1 "gatherwick/maps/RedBlackTree$Node" "parent" "Lgatherwick/maps/RedBlackTree$Node;" (.ref g1)) ∧ (Fld Z h x1 "gatherwick/maps/RedBlackTree$Node" "red" "Z" (.int rx))
theorem rmRl (l : Launch) (Z : State) (a0 : Array Value) (hw : ∀ d ∈ tables_1, d.before a0 Z = true) (ws : List Jvm.Cond) (ar : Addr) (nn : Addr) (x1 : Addr) (g1 : Addr) (vgo : Value) (vgp : Value) (rg : Int32) (vp1 : Value) (vl1 : Value) (vr1 : Value) (rx : Int32) (h0 : Heap) (n0 : Nat) (Z0 : n0 ≤ h0.size) (E_g1 : Exa Z h0 g1 "gatherwick/maps/RedBlackTree$Node") (g_g1 : n0 ≤ g1) (E_x1 : Exa Z h0 x1 "gatherwick/maps/RedBlackTree$Node") (g_x1 : n0 ≤ x1) (ne1 : g1 ≠ x1) (ne2 : g1 ≠ nn) (n_parent : Fld Z h0 nn "gatherwick/maps/RedBlackTree$Node" "parent" "Lgatherwick/maps/RedBlackTree$Node;" (.ref g1)) (g_left : Fld Z h0 g1 "gatherwick/maps/RedBlackTree$Node" "left" "Lgatherwick/maps/RedBlackTree$Node;" (.ref nn)) (g_right : Fld Z h0 g1 "gatherwick/maps/RedBlackTree$Node" "right" "Lgatherwick/maps/RedBlackTree$Node;" vgo) (g_parent : Fld Z h0 g1 "gatherwick/maps/RedBlackTree$Node" "parent" "Lgatherwick/maps/RedBlackTree$Node;" vgp) (g_red : Fld Z h0 g1 "gatherwick/maps/RedBlackTree$Node" "red" "Z" (.int rg)) (x_left : Fld Z h0 x1 "gatherwick/maps/RedBlackTree$Node" "left" "Lgatherwick/maps/RedBlackTree$Node;" vl1) (x_right : Fld Z h0 x1 "gatherwick/maps/RedBlackTree$Node" "right" "Lgatherwick/maps/RedBlackTree$Node;" vr1) (x_parent : Fld Z h0 x1 "gatherwick/maps/RedBlackTree$Node" "parent" "Lgatherwick/maps/RedBlackTree$Node;" vp1) (x_red : Fld Z h0 x1 "gatherwick/maps/RedBlackTree$Node" "red" "Z" (.int rx)) :
    MetFree l (⟨"gatherwick/maps/RedBlackTree", "replace", "(Lgatherwick/maps/RedBlackTree$Node;Lgatherwick/maps/RedBlackTree$Node;Lgatherwick/maps/RedBlackTree$Node;)Lgatherwick/maps/RedBlackTree$Node;"⟩ : MethodName) (head1 (Jvm.Cond.code (⟨"gatherwick/maps/RedBlackTree", "replace", "(Lgatherwick/maps/RedBlackTree$Node;Lgatherwick/maps/RedBlackTree$Node;Lgatherwick/maps/RedBlackTree$Node;)Lgatherwick/maps/RedBlackTree$Node;"⟩ : MethodName) prog_57_method_9_code 4 (some (.object "gatherwick/maps/RedBlackTree$Node")) :: ws) ({ frames := 0, cells := 0, slots := 0, locals := 0 } : Room)) (fun aA U => aA = #[(.ref ar), (.ref nn), (.ref x1)] ∧ Z.Warmed39 U.vm ∧ U.heap = h0) (fun _ _ _ _ _ => True) (fun _ U o U' => ∃ v L, o = .returned v ∧ Q_rmRl Z ar nn x1 g1 vgo vgp rg vp1 vl1 vr1 rx h0 n0 v U'.heap L ∧ FrameEnd U o U' L ({ frames := 0, cells := 0, slots := 0, locals := 0 } : Room).cells ({ frames := 0, cells := 0, slots := 0, locals := 0 } : Room).slots) := by
  refine MetFree.of_bodySF (plainFor_of_name pn_gatherwick_maps_RedBlackTree) hisR ?_
  intro p e s m args below meth c s₁ Bd hml0 hP hK
  obtain ⟨rfl, hZ, hh⟩ := hP
  have hx := Bd.exec
  have hby := Bd.bytes
  have hml : c.maxLocals = 4 := hml0
  have hown : s.vm.findClass "gatherwick/maps/RedBlackTree" = some m.cls := findClass_of_methodNamed Bd.named
  have hnm := (name_of_methodNamed Bd.named Bd.method).1
  have hret := Bd.returns
  have hlk : meth.locks = false := BodyLoose.notSynchronized Bd
  have X0 : Stand p l e ({ frames := 0, cells := 0, slots := 0, locals := 0 } : Room) s m #[(.ref ar), (.ref nn), (.ref x1)] below meth c s₁ [] 0 0 := Stand.of_body Bd
  have e0 : s₁.heap = h0 := by rw [← hh, Bd.state]; rfl
  have N0 := Fr.nil n0
  suffices hgo : Go p e below s ({ frames := 0, cells := 0, slots := 0, locals := 0 } : Room).cells ({ frames := 0, cells := 0, slots := 0, locals := 0 } : Room).slots (Q_rmRl Z ar nn x1 g1 vgo vgp rg vp1 vl1 vr1 rx h0 n0) s₁ (mkF m 0 #[.val (.ref ar), .val (.ref nn), .val (.ref x1), .unset] []) from hgo.enter (ef_rmRl m ar nn x1)
  refine Go.step (fun _ k => XS.aloadN X0.here hx rfl (hb hby d32_0) rfl rfl k) ?_
  obtain ⟨T129, X129, e129, st129⟩ := getF X0 hx hZ hown (host := "") (Or.inl (own_w hw 146 rfl)) Via.refl e0 n_parent (g := (mkF m 1 #[.val (.ref ar), .val (.ref nn), .val (.ref x1), .unset] [(.ref nn)])) rfl rfl (hb hby d32_1)
  refine Go.step st129 ?_
  show Go _ _ _ _ _ _ _ T129 (mkF m 4 #[.val (.ref ar), .val (.ref nn), .val (.ref x1), .unset] [(.ref g1)])
  refine Go.step (fun _ k => XS.astoreN X129.here hx rfl (hb hby d32_4) rfl rfl (l' := #[.val (.ref ar), .val (.ref nn), .val (.ref x1), .val (.ref g1)]) rfl k) ?_
  show Go _ _ _ _ _ _ _ T129 (mkF m 5 #[.val (.ref ar), .val (.ref nn), .val (.ref x1), .val (.ref g1)] [])
  refine Go.step (fun _ k => XS.aloadN X129.here hx rfl (hb hby d32_5) rfl rfl k) ?_
  refine Go.step (fun _ k => XS.ifnonnullYes X129.here hx rfl (pc0 := 6) (pc' := 14) rfl (hb hby d32_6) rfl (by decide) (by decide) k) ?_
  show Go _ _ _ _ _ _ _ T129 (mkF m 14 #[.val (.ref ar), .val (.ref nn), .val (.ref x1), .val (.ref g1)] [])
  refine Go.step (fun _ k => XS.aloadN X129.here hx rfl (hb hby d32_14) rfl rfl k) ?_
  refine Go.step (fun _ k => XS.aloadN X129.here hx rfl (hb hby d32_15) rfl rfl k) ?_
  obtain ⟨T130, X130, e130, st130⟩ := getF X129 hx hZ hown (host := "") (Or.inl (own_w hw 180 rfl)) Via.refl e129 g_left (g := (mkF m 16 #[.val (.ref ar), .val (.ref nn), .val (.ref x1), .val (.ref g1)] [(.ref g1), (.ref nn)])) rfl rfl (hb hby d32_16)
  refine Go.step st130 ?_
  show Go _ _ _ _ _ _ _ T130 (mkF m 19 #[.val (.ref ar), .val (.ref nn), .val (.ref x1), .val (.ref g1)] [(.ref nn), (.ref nn)])
  refine Go.step (fun _ k => Jvm.RoadKit.acmp (g := (mkF m 19 #[.val (.ref ar), .val (.ref nn), .val (.ref x1), .val (.ref g1)] [(.ref nn), (.ref nn)])) X130 hx rfl rfl rfl (pc0 := 19) (pc' := 22) (same := true) rfl (hb hby d32_19) rfl (decide_eq_true rfl) (by decide) (by decide) k) ?_
  show Go _ _ _ _ _ _ _ T130 (mkF m 22 #[.val (.ref ar), .val (.ref nn), .val (.ref x1), .val (.ref g1)] [])
  refine Go.step (fun _ k => XS.aloadN X130.here hx rfl (hb hby d32_22) rfl rfl k) ?_
  refine Go.step (fun _ k => XS.aloadN X130.here hx rfl (hb hby d32_23) rfl rfl k) ?_
  obtain ⟨T131, h131, X131, e131, W131, st131⟩ := putF X130 hx hZ hown (host := "") (Or.inl (own_w hw 180 rfl)) Via.refl e130 g_left E_g1 (Or.inl (own_w hw 179 rfl)) (own_w hw 119 rfl) (ty := (.object "gatherwick/maps/RedBlackTree$Node")) (by decide) rfl rfl (g := (mkF m 24 #[.val (.ref ar), .val (.ref nn), .val (.ref x1), .val (.ref g1)] [(.ref x1), (.ref g1)])) rfl rfl (hb hby d32_24)
  refine Go.step st131 ?_
  have Fw131 := g_left.same W131
  have N131 := Fr.snoc X131 N0 g_g1
  have Z131 : n0 ≤ h131.size := Nat.le_trans Z0 (Keep.of_wr W131).1
  have KK131 := (Keep.refl h0 [g1, x1]).wr W131 (Or.inl (List.mem_of_getElem? (i := 0) rfl))
  show Go _ _ _ _ _ _ _ T131 (mkF m 27 #[.val (.ref ar), .val (.ref nn), .val (.ref x1), .val (.ref g1)] [])
  refine Go.step (fun _ k => XS.goto X131.here hx rfl (pc0 := 27) (pc' := 35) rfl (hb hby d32_27) (by decide) (by decide) k) ?_
  show Go _ _ _ _ _ _ _ T131 (mkF m 35 #[.val (.ref ar), .val (.ref nn), .val (.ref x1), .val (.ref g1)] [])
  refine Go.step (fun _ k => XS.aloadN X131.here hx rfl (hb hby d32_35) rfl rfl k) ?_
  refine Go.step (fun _ k => XS.ifnullNo X131.here hx rfl (hb hby d32_36) rfl k) ?_
  show Go _ _ _ _ _ _ _ T131 (mkF m 39 #[.val (.ref ar), .val (.ref nn), .val (.ref x1), .val (.ref g1)] [])
  refine Go.step (fun _ k => XS.aloadN X131.here hx rfl (hb hby d32_39) rfl rfl k) ?_
  refine Go.step (fun _ k => XS.aloadN X131.here hx rfl (hb hby d32_40) rfl rfl k) ?_
  have f132 := (x_parent.other W131 (Or.inl (Ne.symm ne1)))
  have f133 := (E_x1.wr W131)
  obtain ⟨T134, h134, X134, e134, W134, st134⟩ := putF X131 hx hZ hown (host := "") (Or.inl (own_w hw 146 rfl)) Via.refl e131 f132 f133 (Or.inl (own_w hw 139 rfl)) (own_w hw 119 rfl) (ty := (.object "gatherwick/maps/RedBlackTree$Node")) (by decide) rfl rfl (g := (mkF m 41 #[.val (.ref ar), .val (.ref nn), .val (.ref x1), .val (.ref g1)] [(.ref g1), (.ref x1)])) rfl rfl (hb hby d32_41)
  refine Go.step st134 ?_
  have Fw134 := f132.same W134
  have N134 := Fr.snoc X134 N131 g_x1
  have Z134 : n0 ≤ h134.size := Nat.le_trans Z131 (Keep.of_wr W134).1
  have KK134 := KK131.wr W134 (Or.inl (List.mem_of_getElem? (i := 1) rfl))
  show Go _ _ _ _ _ _ _ T134 (mkF m 44 #[.val (.ref ar), .val (.ref nn), .val (.ref x1), .val (.ref g1)] [])
  refine Go.step (fun _ k => XS.aloadN X134.here hx rfl (hb hby d32_44) rfl rfl k) ?_
  have f135 := (Fw131.other W134 (Or.inl ne1))
  have f136 := ((g_right.other W131 (Or.inr (slot_ne (a0 := a0) (C := "gatherwick/maps/RedBlackTree$Node") (Or.inl (own_w hw 176 rfl)) (Or.inl (own_w hw 179 rfl)) (by decide) (t := (.object "gatherwick/maps/RedBlackTree$Node")) (t' := (.object "gatherwick/maps/RedBlackTree$Node")) (by decide) (by decide)))).other W134 (Or.inl ne1))
  have f137 := ((g_parent.other W131 (Or.inr (slot_ne (a0 := a0) (C := "gatherwick/maps/RedBlackTree$Node") (Or.inl (own_w hw 139 rfl)) (Or.inl (own_w hw 179 rfl)) (by decide) (t := (.object "gatherwick/maps/RedBlackTree$Node")) (t' := (.object "gatherwick/maps/RedBlackTree$Node")) (by decide) (by decide)))).other W134 (Or.inl ne1))
  have f138 := ((g_red.other W131 (Or.inr (slot_ne (a0 := a0) (C := "gatherwick/maps/RedBlackTree$Node") (Or.inl (own_w hw 133 rfl)) (Or.inl (own_w hw 179 rfl)) (by decide) (t := .boolean) (t' := (.object "gatherwick/maps/RedBlackTree$Node")) (by decide) (by decide)))).other W134 (Or.inl ne1))
  have f139 := ((x_left.other W131 (Or.inl (Ne.symm ne1))).other W134 (Or.inr (slot_ne (a0 := a0) (C := "gatherwick/maps/RedBlackTree$Node") (Or.inl (own_w hw 179 rfl)) (Or.inl (own_w hw 139 rfl)) (by decide) (t := (.object "gatherwick/maps/RedBlackTree$Node")) (t' := (.object "gatherwick/maps/RedBlackTree$Node")) (by decide) (by decide))))
  have f140 := ((x_right.other W131 (Or.inl (Ne.symm ne1))).other W134 (Or.inr (slot_ne (a0 := a0) (C := "gatherwick/maps/RedBlackTree$Node") (Or.inl (own_w hw 176 rfl)) (Or.inl (own_w hw 139 rfl)) (by decide) (t := (.object "gatherwick/maps/RedBlackTree$Node")) (t' := (.object "gatherwick/maps/RedBlackTree$Node")) (by decide) (by decide))))
  have f141 := ((x_red.other W131 (Or.inl (Ne.symm ne1))).other W134 (Or.inr (slot_ne (a0 := a0) (C := "gatherwick/maps/RedBlackTree$Node") (Or.inl (own_w hw 133 rfl)) (Or.inl (own_w hw 139 rfl)) (by decide) (t := .boolean) (t' := (.object "gatherwick/maps/RedBlackTree$Node")) (by decide) (by decide))))
  exact Go.retA X134 hx hret hlk rfl rfl (hb hby d32_45) e134 (by decide) (by decide) ⟨rfl, N134, KK134, f135, f136, f137, f138, f139, f140, Fw134, f141⟩
theorem ef_rmRr (m : MethodId) (ar : Addr) (nn : Addr) (x1 : Addr) : entryFrame m #[(.ref ar), (.ref nn), (.ref x1)] 4 = mkF m 0 #[.val (.ref ar), .val (.ref nn), .val (.ref x1), .unset] [] := by first | (simp [entryFrame, mkF, argsToLocals, Value.category]; done) | rfl
def Q_rmRr (Z : State) (ar : Addr) (nn : Addr) (x1 : Addr) (g1 : Addr) (vgp : Value) (rg : Int32) (vp1 : Value) (vl1 : Value) (vr1 : Value) (rx : Int32) (h0 : Heap) (n0 : Nat) (v : Option Value) (h : Heap) (L : List Loc) : Prop := (v = some (.ref ar)) ∧ (Fr n0 L) ∧ (Keep h0 h [g1, x1]) ∧ (Fld Z h g1 "gatherwick/maps/RedBlackTree$Node" "right" "Lgatherwick/maps/RedBlackTree$Node;" (.ref x1)) ∧ (Fld Z h g1 "gatherwick/maps/RedBlackTree$Node" "left" "Lgatherwick/maps/RedBlackTree$Node;" .null) ∧ (Fld Z h g1 "gatherwick/maps/RedBlackTree$Node" "parent" "Lgatherwick/maps/RedBlackTree$Node;" vgp) ∧ (Fld Z h g1 "gatherwick/maps/RedBlackTree$Node" "red" "Z" (.int rg)) ∧ (Fld Z h x1 "gatherwick/maps/RedBlackTree$Node" "left" "Lgatherwick/maps/RedBlackTree$Node;" vl1) ∧ (Fld Z h x1 "gatherwick/maps/RedBlackTree$Node" "right" "Lgatherwick/maps/RedBlackTree$Node;" vr1) ∧ (Fld Z h x1 "gatherwick/maps/RedBlackTree$Node" "parent" "Lgatherwick/maps/RedBlackTree$Node;" (.ref g1)) ∧ (Fld Z h x1 "gatherwick/maps/RedBlackTree$Node" "red" "Z" (.int rx))
theorem rmRr (l : Launch) (Z : State) (a0 : Array Value) (hw : ∀ d ∈ tables_1, d.before a0 Z = true) (ws : List Jvm.Cond) (ar : Addr) (nn : Addr) (x1 : Addr) (g1 : Addr) (vgp : Value) (rg : Int32) (vp1 : Value) (vl1 : Value) (vr1 : Value) (rx : Int32) (h0 : Heap) (n0 : Nat) (Z0 : n0 ≤ h0.size) (E_g1 : Exa Z h0 g1 "gatherwick/maps/RedBlackTree$Node") (g_g1 : n0 ≤ g1) (E_x1 : Exa Z h0 x1 "gatherwick/maps/RedBlackTree$Node") (g_x1 : n0 ≤ x1) (ne1 : g1 ≠ x1) (ne2 : g1 ≠ nn) (n_parent : Fld Z h0 nn "gatherwick/maps/RedBlackTree$Node" "parent" "Lgatherwick/maps/RedBlackTree$Node;" (.ref g1)) (g_right : Fld Z h0 g1 "gatherwick/maps/RedBlackTree$Node" "right" "Lgatherwick/maps/RedBlackTree$Node;" (.ref nn)) (g_left : Fld Z h0 g1 "gatherwick/maps/RedBlackTree$Node" "left" "Lgatherwick/maps/RedBlackTree$Node;" .null) (g_parent : Fld Z h0 g1 "gatherwick/maps/RedBlackTree$Node" "parent" "Lgatherwick/maps/RedBlackTree$Node;" vgp) (g_red : Fld Z h0 g1 "gatherwick/maps/RedBlackTree$Node" "red" "Z" (.int rg)) (x_left : Fld Z h0 x1 "gatherwick/maps/RedBlackTree$Node" "left" "Lgatherwick/maps/RedBlackTree$Node;" vl1) (x_right : Fld Z h0 x1 "gatherwick/maps/RedBlackTree$Node" "right" "Lgatherwick/maps/RedBlackTree$Node;" vr1) (x_parent : Fld Z h0 x1 "gatherwick/maps/RedBlackTree$Node" "parent" "Lgatherwick/maps/RedBlackTree$Node;" vp1) (x_red : Fld Z h0 x1 "gatherwick/maps/RedBlackTree$Node" "red" "Z" (.int rx)) :
    MetFree l (⟨"gatherwick/maps/RedBlackTree", "replace", "(Lgatherwick/maps/RedBlackTree$Node;Lgatherwick/maps/RedBlackTree$Node;Lgatherwick/maps/RedBlackTree$Node;)Lgatherwick/maps/RedBlackTree$Node;"⟩ : MethodName) (head1 (Jvm.Cond.code (⟨"gatherwick/maps/RedBlackTree", "replace", "(Lgatherwick/maps/RedBlackTree$Node;Lgatherwick/maps/RedBlackTree$Node;Lgatherwick/maps/RedBlackTree$Node;)Lgatherwick/maps/RedBlackTree$Node;"⟩ : MethodName) prog_57_method_9_code 4 (some (.object "gatherwick/maps/RedBlackTree$Node")) :: ws) ({ frames := 0, cells := 0, slots := 0, locals := 0 } : Room)) (fun aA U => aA = #[(.ref ar), (.ref nn), (.ref x1)] ∧ Z.Warmed39 U.vm ∧ U.heap = h0) (fun _ _ _ _ _ => True) (fun _ U o U' => ∃ v L, o = .returned v ∧ Q_rmRr Z ar nn x1 g1 vgp rg vp1 vl1 vr1 rx h0 n0 v U'.heap L ∧ FrameEnd U o U' L ({ frames := 0, cells := 0, slots := 0, locals := 0 } : Room).cells ({ frames := 0, cells := 0, slots := 0, locals := 0 } : Room).slots) := by
  refine MetFree.of_bodySF (plainFor_of_name pn_gatherwick_maps_RedBlackTree) hisR ?_
  intro p e s m args below meth c s₁ Bd hml0 hP hK
  obtain ⟨rfl, hZ, hh⟩ := hP
  have hx := Bd.exec
  have hby := Bd.bytes
  have hml : c.maxLocals = 4 := hml0
  have hown : s.vm.findClass "gatherwick/maps/RedBlackTree" = some m.cls := findClass_of_methodNamed Bd.named
  have hnm := (name_of_methodNamed Bd.named Bd.method).1
  have hret := Bd.returns
  have hlk : meth.locks = false := BodyLoose.notSynchronized Bd
  have X0 : Stand p l e ({ frames := 0, cells := 0, slots := 0, locals := 0 } : Room) s m #[(.ref ar), (.ref nn), (.ref x1)] below meth c s₁ [] 0 0 := Stand.of_body Bd
  have e0 : s₁.heap = h0 := by rw [← hh, Bd.state]; rfl
  have N0 := Fr.nil n0
  suffices hgo : Go p e below s ({ frames := 0, cells := 0, slots := 0, locals := 0 } : Room).cells ({ frames := 0, cells := 0, slots := 0, locals := 0 } : Room).slots (Q_rmRr Z ar nn x1 g1 vgp rg vp1 vl1 vr1 rx h0 n0) s₁ (mkF m 0 #[.val (.ref ar), .val (.ref nn), .val (.ref x1), .unset] []) from hgo.enter (ef_rmRr m ar nn x1)
  refine Go.step (fun _ k => XS.aloadN X0.here hx rfl (hb hby d32_0) rfl rfl k) ?_
  obtain ⟨T142, X142, e142, st142⟩ := getF X0 hx hZ hown (host := "") (Or.inl (own_w hw 146 rfl)) Via.refl e0 n_parent (g := (mkF m 1 #[.val (.ref ar), .val (.ref nn), .val (.ref x1), .unset] [(.ref nn)])) rfl rfl (hb hby d32_1)
  refine Go.step st142 ?_
  show Go _ _ _ _ _ _ _ T142 (mkF m 4 #[.val (.ref ar), .val (.ref nn), .val (.ref x1), .unset] [(.ref g1)])
  refine Go.step (fun _ k => XS.astoreN X142.here hx rfl (hb hby d32_4) rfl rfl (l' := #[.val (.ref ar), .val (.ref nn), .val (.ref x1), .val (.ref g1)]) rfl k) ?_
  show Go _ _ _ _ _ _ _ T142 (mkF m 5 #[.val (.ref ar), .val (.ref nn), .val (.ref x1), .val (.ref g1)] [])
  refine Go.step (fun _ k => XS.aloadN X142.here hx rfl (hb hby d32_5) rfl rfl k) ?_
  refine Go.step (fun _ k => XS.ifnonnullYes X142.here hx rfl (pc0 := 6) (pc' := 14) rfl (hb hby d32_6) rfl (by decide) (by decide) k) ?_
  show Go _ _ _ _ _ _ _ T142 (mkF m 14 #[.val (.ref ar), .val (.ref nn), .val (.ref x1), .val (.ref g1)] [])
  refine Go.step (fun _ k => XS.aloadN X142.here hx rfl (hb hby d32_14) rfl rfl k) ?_
  refine Go.step (fun _ k => XS.aloadN X142.here hx rfl (hb hby d32_15) rfl rfl k) ?_
  obtain ⟨T143, X143, e143, st143⟩ := getF X142 hx hZ hown (host := "") (Or.inl (own_w hw 180 rfl)) Via.refl e142 g_left (g := (mkF m 16 #[.val (.ref ar), .val (.ref nn), .val (.ref x1), .val (.ref g1)] [(.ref g1), (.ref nn)])) rfl rfl (hb hby d32_16)
  refine Go.step st143 ?_
  show Go _ _ _ _ _ _ _ T143 (mkF m 19 #[.val (.ref ar), .val (.ref nn), .val (.ref x1), .val (.ref g1)] [.null, (.ref nn)])
  refine Go.step (fun _ k => Jvm.RoadKit.acmp (g := (mkF m 19 #[.val (.ref ar), .val (.ref nn), .val (.ref x1), .val (.ref g1)] [.null, (.ref nn)])) X143 hx rfl rfl rfl (pc0 := 19) (pc' := 30) (same := false) rfl (hb hby d32_19) rfl (decide_eq_false nofun) (by decide) (by decide) k) ?_
  show Go _ _ _ _ _ _ _ T143 (mkF m 30 #[.val (.ref ar), .val (.ref nn), .val (.ref x1), .val (.ref g1)] [])
  refine Go.step (fun _ k => XS.aloadN X143.here hx rfl (hb hby d32_30) rfl rfl k) ?_
  refine Go.step (fun _ k => XS.aloadN X143.here hx rfl (hb hby d32_31) rfl rfl k) ?_
  obtain ⟨T144, h144, X144, e144, W144, st144⟩ := putF X143 hx hZ hown (host := "") (Or.inl (own_w hw 177 rfl)) Via.refl e143 g_right E_g1 (Or.inl (own_w hw 176 rfl)) (own_w hw 119 rfl) (ty := (.object "gatherwick/maps/RedBlackTree$Node")) (by decide) rfl rfl (g := (mkF m 32 #[.val (.ref ar), .val (.ref nn), .val (.ref x1), .val (.ref g1)] [(.ref x1), (.ref g1)])) rfl rfl (hb hby d32_32)
  refine Go.step st144 ?_
  have Fw144 := g_right.same W144
  have N144 := Fr.snoc X144 N0 g_g1
  have Z144 : n0 ≤ h144.size := Nat.le_trans Z0 (Keep.of_wr W144).1
  have KK144 := (Keep.refl h0 [g1, x1]).wr W144 (Or.inl (List.mem_of_getElem? (i := 0) rfl))
  show Go _ _ _ _ _ _ _ T144 (mkF m 35 #[.val (.ref ar), .val (.ref nn), .val (.ref x1), .val (.ref g1)] [])
  refine Go.step (fun _ k => XS.aloadN X144.here hx rfl (hb hby d32_35) rfl rfl k) ?_
  refine Go.step (fun _ k => XS.ifnullNo X144.here hx rfl (hb hby d32_36) rfl k) ?_
  show Go _ _ _ _ _ _ _ T144 (mkF m 39 #[.val (.ref ar), .val (.ref nn), .val (.ref x1), .val (.ref g1)] [])
  refine Go.step (fun _ k => XS.aloadN X144.here hx rfl (hb hby d32_39) rfl rfl k) ?_
  refine Go.step (fun _ k => XS.aloadN X144.here hx rfl (hb hby d32_40) rfl rfl k) ?_
  have f145 := (x_parent.other W144 (Or.inl (Ne.symm ne1)))
  have f146 := (E_x1.wr W144)
  obtain ⟨T147, h147, X147, e147, W147, st147⟩ := putF X144 hx hZ hown (host := "") (Or.inl (own_w hw 146 rfl)) Via.refl e144 f145 f146 (Or.inl (own_w hw 139 rfl)) (own_w hw 119 rfl) (ty := (.object "gatherwick/maps/RedBlackTree$Node")) (by decide) rfl rfl (g := (mkF m 41 #[.val (.ref ar), .val (.ref nn), .val (.ref x1), .val (.ref g1)] [(.ref g1), (.ref x1)])) rfl rfl (hb hby d32_41)
  refine Go.step st147 ?_
  have Fw147 := f145.same W147
  have N147 := Fr.snoc X147 N144 g_x1
  have Z147 : n0 ≤ h147.size := Nat.le_trans Z144 (Keep.of_wr W147).1
  have KK147 := KK144.wr W147 (Or.inl (List.mem_of_getElem? (i := 1) rfl))
  show Go _ _ _ _ _ _ _ T147 (mkF m 44 #[.val (.ref ar), .val (.ref nn), .val (.ref x1), .val (.ref g1)] [])
  refine Go.step (fun _ k => XS.aloadN X147.here hx rfl (hb hby d32_44) rfl rfl k) ?_
  have f148 := (Fw144.other W147 (Or.inl ne1))
  have f149 := ((g_left.other W144 (Or.inr (slot_ne (a0 := a0) (C := "gatherwick/maps/RedBlackTree$Node") (Or.inl (own_w hw 179 rfl)) (Or.inl (own_w hw 176 rfl)) (by decide) (t := (.object "gatherwick/maps/RedBlackTree$Node")) (t' := (.object "gatherwick/maps/RedBlackTree$Node")) (by decide) (by decide)))).other W147 (Or.inl ne1))
  have f150 := ((g_parent.other W144 (Or.inr (slot_ne (a0 := a0) (C := "gatherwick/maps/RedBlackTree$Node") (Or.inl (own_w hw 139 rfl)) (Or.inl (own_w hw 176 rfl)) (by decide) (t := (.object "gatherwick/maps/RedBlackTree$Node")) (t' := (.object "gatherwick/maps/RedBlackTree$Node")) (by decide) (by decide)))).other W147 (Or.inl ne1))
  have f151 := ((g_red.other W144 (Or.inr (slot_ne (a0 := a0) (C := "gatherwick/maps/RedBlackTree$Node") (Or.inl (own_w hw 133 rfl)) (Or.inl (own_w hw 176 rfl)) (by decide) (t := .boolean) (t' := (.object "gatherwick/maps/RedBlackTree$Node")) (by decide) (by decide)))).other W147 (Or.inl ne1))
  have f152 := ((x_left.other W144 (Or.inl (Ne.symm ne1))).other W147 (Or.inr (slot_ne (a0 := a0) (C := "gatherwick/maps/RedBlackTree$Node") (Or.inl (own_w hw 179 rfl)) (Or.inl (own_w hw 139 rfl)) (by decide) (t := (.object "gatherwick/maps/RedBlackTree$Node")) (t' := (.object "gatherwick/maps/RedBlackTree$Node")) (by decide) (by decide))))
  have f153 := ((x_right.other W144 (Or.inl (Ne.symm ne1))).other W147 (Or.inr (slot_ne (a0 := a0) (C := "gatherwick/maps/RedBlackTree$Node") (Or.inl (own_w hw 176 rfl)) (Or.inl (own_w hw 139 rfl)) (by decide) (t := (.object "gatherwick/maps/RedBlackTree$Node")) (t' := (.object "gatherwick/maps/RedBlackTree$Node")) (by decide) (by decide))))
  have f154 := ((x_red.other W144 (Or.inl (Ne.symm ne1))).other W147 (Or.inr (slot_ne (a0 := a0) (C := "gatherwick/maps/RedBlackTree$Node") (Or.inl (own_w hw 133 rfl)) (Or.inl (own_w hw 139 rfl)) (by decide) (t := .boolean) (t' := (.object "gatherwick/maps/RedBlackTree$Node")) (by decide) (by decide))))
  exact Go.retA X147 hx hret hlk rfl rfl (hb hby d32_45) e147 (by decide) (by decide) ⟨rfl, N147, KK147, f148, f149, f150, f151, f152, f153, Fw147, f154⟩
theorem d31_0 : decode prog_57_method_11_code 0 = .ok (.aload_n 1, 1) := by decide +kernel
theorem d31_1 : decode prog_57_method_11_code 1 = .ok (.getfield 13, 3) := by decide +kernel
theorem d31_4 : decode prog_57_method_11_code 4 = .ok (.astore_n 2, 1) := by decide +kernel
theorem d31_5 : decode prog_57_method_11_code 5 = .ok (.aload_n 1, 1) := by decide +kernel
theorem d31_6 : decode prog_57_method_11_code 6 = .ok (.aload_n 2, 1) := by decide +kernel
theorem d31_7 : decode prog_57_method_11_code 7 = .ok (.getfield 16, 3) := by decide +kernel
theorem d31_10 : decode prog_57_method_11_code 10 = .ok (.putfield 13, 3) := by decide +kernel
theorem d31_13 : decode prog_57_method_11_code 13 = .ok (.aload_n 2, 1) := by decide +kernel
theorem d31_14 : decode prog_57_method_11_code 14 = .ok (.getfield 16, 3) := by decide +kernel
theorem d31_17 : decode prog_57_method_11_code 17 = .ok (.ifnull 11, 3) := by decide +kernel
theorem d31_28 : decode prog_57_method_11_code 28 = .ok (.aload_n 0, 1) := by decide +kernel
theorem d31_29 : decode prog_57_method_11_code 29 = .ok (.aload_n 1, 1) := by decide +kernel
theorem d31_30 : decode prog_57_method_11_code 30 = .ok (.aload_n 2, 1) := by decide +kernel
theorem d31_31 : decode prog_57_method_11_code 31 = .ok (.invokestatic 39, 3) := by decide +kernel
theorem d31_34 : decode prog_57_method_11_code 34 = .ok (.astore_n 0, 1) := by decide +kernel
theorem d31_35 : decode prog_57_method_11_code 35 = .ok (.aload_n 2, 1) := by decide +kernel
theorem d31_36 : decode prog_57_method_11_code 36 = .ok (.aload_n 1, 1) := by decide +kernel
theorem d31_37 : decode prog_57_method_11_code 37 = .ok (.putfield 16, 3) := by decide +kernel
theorem d31_40 : decode prog_57_method_11_code 40 = .ok (.aload_n 1, 1) := by decide +kernel
theorem d31_41 : decode prog_57_method_11_code 41 = .ok (.aload_n 2, 1) := by decide +kernel
theorem d31_42 : decode prog_57_method_11_code 42 = .ok (.putfield 7, 3) := by decide +kernel
theorem d31_45 : decode prog_57_method_11_code 45 = .ok (.aload_n 0, 1) := by decide +kernel
theorem d31_46 : decode prog_57_method_11_code 46 = .ok (.areturn, 1) := by decide +kernel
theorem pd__Lgatherwick_maps_RedBlackTree_Node_Lgatherwick_maps_RedBlackTree_Node_Lgatherwick_maps_RedBlackTree_Node__Lgatherwick_maps_RedBlackTree_Node_ : parseMethodDescriptor "(Lgatherwick/maps/RedBlackTree$Node;Lgatherwick/maps/RedBlackTree$Node;Lgatherwick/maps/RedBlackTree$Node;)Lgatherwick/maps/RedBlackTree$Node;" = some ⟨[(.object "gatherwick/maps/RedBlackTree$Node"), (.object "gatherwick/maps/RedBlackTree$Node"), (.object "gatherwick/maps/RedBlackTree$Node")], some (.object "gatherwick/maps/RedBlackTree$Node")⟩ := by decide +kernel
theorem ef_rmTl (m : MethodId) (ar : Addr) (nn : Addr) : entryFrame m #[(.ref ar), (.ref nn)] 3 = mkF m 0 #[.val (.ref ar), .val (.ref nn), .unset] [] := by first | (simp [entryFrame, mkF, argsToLocals, Value.category]; done) | rfl
def Q_rmTl (Z : State) (ar : Addr) (nn : Addr) (x1 : Addr) (vs1 : Value) (vp1 : Value) (rx : Int32) (h0 : Heap) (n0 : Nat) (v : Option Value) (h : Heap) (L : List Loc) : Prop := (v = some (.ref x1)) ∧ (Fr n0 L) ∧ (Keep h0 h [nn, x1]) ∧ (Fld Z h nn "gatherwick/maps/RedBlackTree$Node" "left" "Lgatherwick/maps/RedBlackTree$Node;" .null) ∧ (Fld Z h nn "gatherwick/maps/RedBlackTree$Node" "parent" "Lgatherwick/maps/RedBlackTree$Node;" (.ref x1)) ∧ (Fld Z h x1 "gatherwick/maps/RedBlackTree$Node" "left" "Lgatherwick/maps/RedBlackTree$Node;" vs1) ∧ (Fld Z h x1 "gatherwick/maps/RedBlackTree$Node" "right" "Lgatherwick/maps/RedBlackTree$Node;" (.ref nn)) ∧ (Fld Z h x1 "gatherwick/maps/RedBlackTree$Node" "parent" "Lgatherwick/maps/RedBlackTree$Node;" .null) ∧ (Fld Z h x1 "gatherwick/maps/RedBlackTree$Node" "red" "Z" (.int rx))
theorem rmTl (l : Launch) (Z : State) (a0 : Array Value) (hw : ∀ d ∈ tables_1, d.before a0 Z = true) (ws : List Jvm.Cond) (ar : Addr) (nn : Addr) (x1 : Addr) (vs1 : Value) (vp1 : Value) (rx : Int32) (h0 : Heap) (n0 : Nat) (Z0 : n0 ≤ h0.size) (E_nn : Exa Z h0 nn "gatherwick/maps/RedBlackTree$Node") (g_nn : n0 ≤ nn) (E_x1 : Exa Z h0 x1 "gatherwick/maps/RedBlackTree$Node") (g_x1 : n0 ≤ x1) (ne1 : nn ≠ x1) (n_left : Fld Z h0 nn "gatherwick/maps/RedBlackTree$Node" "left" "Lgatherwick/maps/RedBlackTree$Node;" (.ref x1)) (n_parent : Fld Z h0 nn "gatherwick/maps/RedBlackTree$Node" "parent" "Lgatherwick/maps/RedBlackTree$Node;" .null) (x_left : Fld Z h0 x1 "gatherwick/maps/RedBlackTree$Node" "left" "Lgatherwick/maps/RedBlackTree$Node;" vs1) (x_right : Fld Z h0 x1 "gatherwick/maps/RedBlackTree$Node" "right" "Lgatherwick/maps/RedBlackTree$Node;" .null) (x_parent : Fld Z h0 x1 "gatherwick/maps/RedBlackTree$Node" "parent" "Lgatherwick/maps/RedBlackTree$Node;" vp1) (x_red : Fld Z h0 x1 "gatherwick/maps/RedBlackTree$Node" "red" "Z" (.int rx)) :
    MetFree l (⟨"gatherwick/maps/RedBlackTree", "rotateRight", "(Lgatherwick/maps/RedBlackTree$Node;Lgatherwick/maps/RedBlackTree$Node;)Lgatherwick/maps/RedBlackTree$Node;"⟩ : MethodName) (head1 (Jvm.Cond.code (⟨"gatherwick/maps/RedBlackTree", "rotateRight", "(Lgatherwick/maps/RedBlackTree$Node;Lgatherwick/maps/RedBlackTree$Node;)Lgatherwick/maps/RedBlackTree$Node;"⟩ : MethodName) prog_57_method_11_code 3 (some (.object "gatherwick/maps/RedBlackTree$Node")) :: ws) ({ frames := 1, cells := 0, slots := 0, locals := 15 } : Room)) (fun aA U => aA = #[(.ref ar), (.ref nn)] ∧ Z.Warmed39 U.vm ∧ U.heap = h0) (fun _ _ _ _ _ => True) (fun _ U o U' => ∃ v L, o = .returned v ∧ Q_rmTl Z ar nn x1 vs1 vp1 rx h0 n0 v U'.heap L ∧ FrameEnd U o U' L ({ frames := 1, cells := 0, slots := 0, locals := 15 } : Room).cells ({ frames := 1, cells := 0, slots := 0, locals := 15 } : Room).slots) := by
  refine MetFree.of_bodySF (plainFor_of_name pn_gatherwick_maps_RedBlackTree) hisR ?_
  intro p e s m args below meth c s₁ Bd hml0 hP hK
  obtain ⟨rfl, hZ, hh⟩ := hP
  have hx := Bd.exec
  have hby := Bd.bytes
  have hml : c.maxLocals = 3 := hml0
  have hown : s.vm.findClass "gatherwick/maps/RedBlackTree" = some m.cls := findClass_of_methodNamed Bd.named
  have hnm := (name_of_methodNamed Bd.named Bd.method).1
  have hret := Bd.returns
  have hlk : meth.locks = false := BodyLoose.notSynchronized Bd
  have X0 : Stand p l e ({ frames := 1, cells := 0, slots := 0, locals := 15 } : Room) s m #[(.ref ar), (.ref nn)] below meth c s₁ [] 0 0 := Stand.of_body Bd
  have e0 : s₁.heap = h0 := by rw [← hh, Bd.state]; rfl
  have N0 := Fr.nil n0
  suffices hgo : Go p e below s ({ frames := 1, cells := 0, slots := 0, locals := 15 } : Room).cells ({ frames := 1, cells := 0, slots := 0, locals := 15 } : Room).slots (Q_rmTl Z ar nn x1 vs1 vp1 rx h0 n0) s₁ (mkF m 0 #[.val (.ref ar), .val (.ref nn), .unset] []) from hgo.enter (ef_rmTl m ar nn)
  refine Go.step (fun _ k => XS.aloadN X0.here hx rfl (hb hby d31_0) rfl rfl k) ?_
  obtain ⟨T155, X155, e155, st155⟩ := getF X0 hx hZ hown (host := "") (Or.inl (own_w hw 180 rfl)) Via.refl e0 n_left (g := (mkF m 1 #[.val (.ref ar), .val (.ref nn), .unset] [(.ref nn)])) rfl rfl (hb hby d31_1)
  refine Go.step st155 ?_
  show Go _ _ _ _ _ _ _ T155 (mkF m 4 #[.val (.ref ar), .val (.ref nn), .unset] [(.ref x1)])
  refine Go.step (fun _ k => XS.astoreN X155.here hx rfl (hb hby d31_4) rfl rfl (l' := #[.val (.ref ar), .val (.ref nn), .val (.ref x1)]) rfl k) ?_
  show Go _ _ _ _ _ _ _ T155 (mkF m 5 #[.val (.ref ar), .val (.ref nn), .val (.ref x1)] [])
  refine Go.step (fun _ k => XS.aloadN X155.here hx rfl (hb hby d31_5) rfl rfl k) ?_
  refine Go.step (fun _ k => XS.aloadN X155.here hx rfl (hb hby d31_6) rfl rfl k) ?_
  obtain ⟨T156, X156, e156, st156⟩ := getF X155 hx hZ hown (host := "") (Or.inl (own_w hw 177 rfl)) Via.refl e155 x_right (g := (mkF m 7 #[.val (.ref ar), .val (.ref nn), .val (.ref x1)] [(.ref x1), (.ref nn)])) rfl rfl (hb hby d31_7)
  refine Go.step st156 ?_
  show Go _ _ _ _ _ _ _ T156 (mkF m 10 #[.val (.ref ar), .val (.ref nn), .val (.ref x1)] [.null, (.ref nn)])
  obtain ⟨T157, h157, X157, e157, W157, st157⟩ := putF X156 hx hZ hown (host := "") (Or.inl (own_w hw 180 rfl)) Via.refl e156 n_left E_nn (Or.inl (own_w hw 179 rfl)) (own_w hw 119 rfl) (ty := (.object "gatherwick/maps/RedBlackTree$Node")) (by decide) rfl rfl (g := (mkF m 10 #[.val (.ref ar), .val (.ref nn), .val (.ref x1)] [.null, (.ref nn)])) rfl rfl (hb hby d31_10)
  refine Go.step st157 ?_
  have Fw157 := n_left.same W157
  have N157 := Fr.snoc X157 N0 g_nn
  have Z157 : n0 ≤ h157.size := Nat.le_trans Z0 (Keep.of_wr W157).1
  have KK157 := (Keep.refl h0 [nn, x1]).wr W157 (Or.inl (List.mem_of_getElem? (i := 0) rfl))
  show Go _ _ _ _ _ _ _ T157 (mkF m 13 #[.val (.ref ar), .val (.ref nn), .val (.ref x1)] [])
  refine Go.step (fun _ k => XS.aloadN X157.here hx rfl (hb hby d31_13) rfl rfl k) ?_
  have f158 := (x_right.other W157 (Or.inl (Ne.symm ne1)))
  obtain ⟨T159, X159, e159, st159⟩ := getF X157 hx hZ hown (host := "") (Or.inl (own_w hw 177 rfl)) Via.refl e157 f158 (g := (mkF m 14 #[.val (.ref ar), .val (.ref nn), .val (.ref x1)] [(.ref x1)])) rfl rfl (hb hby d31_14)
  refine Go.step st159 ?_
  show Go _ _ _ _ _ _ _ T159 (mkF m 17 #[.val (.ref ar), .val (.ref nn), .val (.ref x1)] [.null])
  refine Go.step (fun _ k => XS.ifnullYes X159.here hx rfl (pc0 := 17) (pc' := 28) rfl (hb hby d31_17) rfl (by decide) (by decide) k) ?_
  show Go _ _ _ _ _ _ _ T159 (mkF m 28 #[.val (.ref ar), .val (.ref nn), .val (.ref x1)] [])
  refine Go.step (fun _ k => XS.aloadN X159.here hx rfl (hb hby d31_28) rfl rfl k) ?_
  refine Go.step (fun _ k => XS.aloadN X159.here hx rfl (hb hby d31_29) rfl rfl k) ?_
  refine Go.step (fun _ k => XS.aloadN X159.here hx rfl (hb hby d31_30) rfl rfl k) ?_
  have f161 := (E_x1.wr W157)
  have f162 := (n_parent.other W157 (Or.inr (slot_ne (a0 := a0) (C := "gatherwick/maps/RedBlackTree$Node") (Or.inl (own_w hw 139 rfl)) (Or.inl (own_w hw 179 rfl)) (by decide) (t := (.object "gatherwick/maps/RedBlackTree$Node")) (t' := (.object "gatherwick/maps/RedBlackTree$Node")) (by decide) (by decide))))
  have f163 := (x_left.other W157 (Or.inl (Ne.symm ne1)))
  have f164 := (x_parent.other W157 (Or.inl (Ne.symm ne1)))
  have f165 := (x_red.other W157 (Or.inl (Ne.symm ne1)))
  obtain ⟨_, _, ⟨T160, L160, k160, n160⟩, -, X160, ⟨Lc160, hQ160, l160, y160, z160⟩, st160⟩ := Jvm.LawKit.callS X159 hx (y := (⟨"gatherwick/maps/RedBlackTree", "replace", "(Lgatherwick/maps/RedBlackTree$Node;Lgatherwick/maps/RedBlackTree$Node;Lgatherwick/maps/RedBlackTree$Node;)Lgatherwick/maps/RedBlackTree$Node;"⟩ : MethodName)) hown (mvT hZ (own_w hw 184 rfl)) (mvT hZ (own_w hw 185 rfl)) (mvT hZ (own_w hw 144 rfl)) (mvT hZ (own_w hw 186 rfl)) (by decide) (backOf (W := 0) (rmRt l Z a0 hw [] ar nn x1 vp1 vs1 .null rx h157 n0 Z157 f161 g_x1 f162 f163 f158 f164 f165) hZ (own_w hw 186 rfl) (own_w hw 144 rfl) (by decide) (by decide)) (g := (mkF m 31 #[.val (.ref ar), .val (.ref nn), .val (.ref x1)] [(.ref x1), (.ref nn), (.ref ar)])) rfl (by rw [hml]; rfl) (argsL := [(.ref ar), (.ref nn), (.ref x1)]) (rest := []) (lenOf pd__Lgatherwick_maps_RedBlackTree_Node_Lgatherwick_maps_RedBlackTree_Node_Lgatherwick_maps_RedBlackTree_Node__Lgatherwick_maps_RedBlackTree_Node_ rfl) rfl (by show 2 * 0 + _ ≤ _; exact Nat.le_of_eq rfl) (hb hby d31_31) (fun _ _ => ⟨rfl, e159, (by decide : 0 + 0 ≤ _), (by decide : 0 + 0 ≤ _)⟩)
  dsimp only [Pt.U, Pt.locs, Pt.cells, Pt.slots] at X160 l160 y160 z160 st160 hQ160
  subst l160 y160 z160
  obtain ⟨h160, e160⟩ : ∃ h, T160.heap = h := ⟨_, rfl⟩
  rw [e160] at hQ160
  obtain ⟨rfl, Nq160, Kq160, y_left_160, y_right_160, y_parent_160, y_red_160⟩ := hQ160
  have N160 := Fr.app N157 Nq160
  have Z160 : n0 ≤ h160.size := Nat.le_trans Z157 Kq160.1
  have KK160 := KK157.trans Kq160 (allS (Or.inl (List.mem_of_getElem? (i := 1) rfl)) all0)
  refine Go.step st160 ?_
  show Go _ _ _ _ _ _ _ T160 (mkF m 34 #[.val (.ref ar), .val (.ref nn), .val (.ref x1)] [(.ref x1)])
  refine Go.step (fun _ k => XS.astoreN X160.here hx rfl (hb hby d31_34) rfl rfl (l' := #[.val (.ref x1), .val (.ref nn), .val (.ref x1)]) rfl k) ?_
  show Go _ _ _ _ _ _ _ T160 (mkF m 35 #[.val (.ref x1), .val (.ref nn), .val (.ref x1)] [])
  refine Go.step (fun _ k => XS.aloadN X160.here hx rfl (hb hby d31_35) rfl rfl k) ?_
  refine Go.step (fun _ k => XS.aloadN X160.here hx rfl (hb hby d31_36) rfl rfl k) ?_
  have f166 := (f161.keep Kq160)
  obtain ⟨T167, h167, X167, e167, W167, st167⟩ := putF X160 hx hZ hown (host := "") (Or.inl (own_w hw 177 rfl)) Via.refl e160 y_right_160 f166 (Or.inl (own_w hw 176 rfl)) (own_w hw 119 rfl) (ty := (.object "gatherwick/maps/RedBlackTree$Node")) (by decide) rfl rfl (g := (mkF m 37 #[.val (.ref x1), .val (.ref nn), .val (.ref x1)] [(.ref nn), (.ref x1)])) rfl rfl (hb hby d31_37)
  refine Go.step st167 ?_
  have Fw167 := y_right_160.same W167
  have N167 := Fr.snoc X167 N160 g_x1
  have Z167 : n0 ≤ h167.size := Nat.le_trans Z160 (Keep.of_wr W167).1
  have KK167 := KK160.wr W167 (Or.inl (List.mem_of_getElem? (i := 1) rfl))
  show Go _ _ _ _ _ _ _ T167 (mkF m 40 #[.val (.ref x1), .val (.ref nn), .val (.ref x1)] [])
  refine Go.step (fun _ k => XS.aloadN X167.here hx rfl (hb hby d31_40) rfl rfl k) ?_
  refine Go.step (fun _ k => XS.aloadN X167.here hx rfl (hb hby d31_41) rfl rfl k) ?_
  have f168 := ((f162.keep Kq160 (ninS ne1 nin0)).other W167 (Or.inl ne1))
  have f169 := (((E_nn.wr W157).keep Kq160).wr W167)
  obtain ⟨T170, h170, X170, e170, W170, st170⟩ := putF X167 hx hZ hown (host := "") (Or.inl (own_w hw 146 rfl)) Via.refl e167 f168 f169 (Or.inl (own_w hw 139 rfl)) (own_w hw 119 rfl) (ty := (.object "gatherwick/maps/RedBlackTree$Node")) (by decide) rfl rfl (g := (mkF m 42 #[.val (.ref x1), .val (.ref nn), .val (.ref x1)] [(.ref x1), (.ref nn)])) rfl rfl (hb hby d31_42)
  refine Go.step st170 ?_
  have Fw170 := f168.same W170
  have N170 := Fr.snoc X170 N167 g_nn
  have Z170 : n0 ≤ h170.size := Nat.le_trans Z167 (Keep.of_wr W170).1
  have KK170 := KK167.wr W170 (Or.inl (List.mem_of_getElem? (i := 0) rfl))
  show Go _ _ _ _ _ _ _ T170 (mkF m 45 #[.val (.ref x1), .val (.ref nn), .val (.ref x1)] [])
  refine Go.step (fun _ k => XS.aloadN X170.here hx rfl (hb hby d31_45) rfl rfl k) ?_
  have f171 := (((Fw157.keep Kq160 (ninS ne1 nin0)).other W167 (Or.inl ne1)).other W170 (Or.inr (slot_ne (a0 := a0) (C := "gatherwick/maps/RedBlackTree$Node") (Or.inl (own_w hw 179 rfl)) (Or.inl (own_w hw 139 rfl)) (by decide) (t := (.object "gatherwick/maps/RedBlackTree$Node")) (t' := (.object "gatherwick/maps/RedBlackTree$Node")) (by decide) (by decide))))
  have f172 := ((y_left_160.other W167 (Or.inr (slot_ne (a0 := a0) (C := "gatherwick/maps/RedBlackTree$Node") (Or.inl (own_w hw 179 rfl)) (Or.inl (own_w hw 176 rfl)) (by decide) (t := (.object "gatherwick/maps/RedBlackTree$Node")) (t' := (.object "gatherwick/maps/RedBlackTree$Node")) (by decide) (by decide)))).other W170 (Or.inl (Ne.symm ne1)))
  have f173 := (Fw167.other W170 (Or.inl (Ne.symm ne1)))
  have f174 := ((y_parent_160.other W167 (Or.inr (slot_ne (a0 := a0) (C := "gatherwick/maps/RedBlackTree$Node") (Or.inl (own_w hw 139 rfl)) (Or.inl (own_w hw 176 rfl)) (by decide) (t := (.object "gatherwick/maps/RedBlackTree$Node")) (t' := (.object "gatherwick/maps/RedBlackTree$Node")) (by decide) (by decide)))).other W170 (Or.inl (Ne.symm ne1)))
  have f175 := ((y_red_160.other W167 (Or.inr (slot_ne (a0 := a0) (C := "gatherwick/maps/RedBlackTree$Node") (Or.inl (own_w hw 133 rfl)) (Or.inl (own_w hw 176 rfl)) (by decide) (t := .boolean) (t' := (.object "gatherwick/maps/RedBlackTree$Node")) (by decide) (by decide)))).other W170 (Or.inl (Ne.symm ne1)))
  exact Go.retA X170 hx hret hlk rfl rfl (hb hby d31_46) e170 (by decide) (by decide) ⟨rfl, N170, KK170, f171, Fw170, f172, f173, f174, f175⟩
theorem ef_rmUl (m : MethodId) (ar : Addr) (nn : Addr) : entryFrame m #[(.ref ar), (.ref nn)] 3 = mkF m 0 #[.val (.ref ar), .val (.ref nn), .unset] [] := by first | (simp [entryFrame, mkF, argsToLocals, Value.category]; done) | rfl
def Q_rmUl (Z : State) (ar : Addr) (nn : Addr) (x1 : Addr) (vs1 : Value) (vp1 : Value) (rx : Int32) (g1 : Addr) (vgp : Value) (rg : Int32) (h0 : Heap) (n0 : Nat) (v : Option Value) (h : Heap) (L : List Loc) : Prop := (v = some (.ref ar)) ∧ (Fr n0 L) ∧ (Keep h0 h [nn, x1, g1]) ∧ (Fld Z h nn "gatherwick/maps/RedBlackTree$Node" "left" "Lgatherwick/maps/RedBlackTree$Node;" .null) ∧ (Fld Z h nn "gatherwick/maps/RedBlackTree$Node" "parent" "Lgatherwick/maps/RedBlackTree$Node;" (.ref x1)) ∧ (Fld Z h x1 "gatherwick/maps/RedBlackTree$Node" "left" "Lgatherwick/maps/RedBlackTree$Node;" vs1) ∧ (Fld Z h x1 "gatherwick/maps/RedBlackTree$Node" "right" "Lgatherwick/maps/RedBlackTree$Node;" (.ref nn)) ∧ (Fld Z h x1 "gatherwick/maps/RedBlackTree$Node" "parent" "Lgatherwick/maps/RedBlackTree$Node;" (.ref g1)) ∧ (Fld Z h x1 "gatherwick/maps/RedBlackTree$Node" "red" "Z" (.int rx)) ∧ (Fld Z h g1 "gatherwick/maps/RedBlackTree$Node" "right" "Lgatherwick/maps/RedBlackTree$Node;" (.ref x1)) ∧ (Fld Z h g1 "gatherwick/maps/RedBlackTree$Node" "left" "Lgatherwick/maps/RedBlackTree$Node;" .null) ∧ (Fld Z h g1 "gatherwick/maps/RedBlackTree$Node" "parent" "Lgatherwick/maps/RedBlackTree$Node;" vgp) ∧ (Fld Z h g1 "gatherwick/maps/RedBlackTree$Node" "red" "Z" (.int rg))
theorem rmUl (l : Launch) (Z : State) (a0 : Array Value) (hw : ∀ d ∈ tables_1, d.before a0 Z = true) (ws : List Jvm.Cond) (ar : Addr) (nn : Addr) (x1 : Addr) (vs1 : Value) (vp1 : Value) (rx : Int32) (g1 : Addr) (vgp : Value) (rg : Int32) (h0 : Heap) (n0 : Nat) (Z0 : n0 ≤ h0.size) (E_nn : Exa Z h0 nn "gatherwick/maps/RedBlackTree$Node") (g_nn : n0 ≤ nn) (E_x1 : Exa Z h0 x1 "gatherwick/maps/RedBlackTree$Node") (g_x1 : n0 ≤ x1) (E_g1 : Exa Z h0 g1 "gatherwick/maps/RedBlackTree$Node") (g_g1 : n0 ≤ g1) (ne1 : nn ≠ x1) (ne2 : g1 ≠ nn) (ne3 : g1 ≠ x1) (n_left : Fld Z h0 nn "gatherwick/maps/RedBlackTree$Node" "left" "Lgatherwick/maps/RedBlackTree$Node;" (.ref x1)) (n_parent : Fld Z h0 nn "gatherwick/maps/RedBlackTree$Node" "parent" "Lgatherwick/maps/RedBlackTree$Node;" (.ref g1)) (x_left : Fld Z h0 x1 "gatherwick/maps/RedBlackTree$Node" "left" "Lgatherwick/maps/RedBlackTree$Node;" vs1) (x_right : Fld Z h0 x1 "gatherwick/maps/RedBlackTree$Node" "right" "Lgatherwick/maps/RedBlackTree$Node;" .null) (x_parent : Fld Z h0 x1 "gatherwick/maps/RedBlackTree$Node" "parent" "Lgatherwick/maps/RedBlackTree$Node;" vp1) (x_red : Fld Z h0 x1 "gatherwick/maps/RedBlackTree$Node" "red" "Z" (.int rx)) (g_right : Fld Z h0 g1 "gatherwick/maps/RedBlackTree$Node" "right" "Lgatherwick/maps/RedBlackTree$Node;" (.ref nn)) (g_left : Fld Z h0 g1 "gatherwick/maps/RedBlackTree$Node" "left" "Lgatherwick/maps/RedBlackTree$Node;" .null) (g_parent : Fld Z h0 g1 "gatherwick/maps/RedBlackTree$Node" "parent" "Lgatherwick/maps/RedBlackTree$Node;" vgp) (g_red : Fld Z h0 g1 "gatherwick/maps/RedBlackTree$Node" "red" "Z" (.int rg)) :
    MetFree l (⟨"gatherwick/maps/RedBlackTree", "rotateRight", "(Lgatherwick/maps/RedBlackTree$Node;Lgatherwick/maps/RedBlackTree$Node;)Lgatherwick/maps/RedBlackTree$Node;"⟩ : MethodName) (head1 (Jvm.Cond.code (⟨"gatherwick/maps/RedBlackTree", "rotateRight", "(Lgatherwick/maps/RedBlackTree$Node;Lgatherwick/maps/RedBlackTree$Node;)Lgatherwick/maps/RedBlackTree$Node;"⟩ : MethodName) prog_57_method_11_code 3 (some (.object "gatherwick/maps/RedBlackTree$Node")) :: ws) ({ frames := 1, cells := 0, slots := 0, locals := 15 } : Room)) (fun aA U => aA = #[(.ref ar), (.ref nn)] ∧ Z.Warmed39 U.vm ∧ U.heap = h0) (fun _ _ _ _ _ => True) (fun _ U o U' => ∃ v L, o = .returned v ∧ Q_rmUl Z ar nn x1 vs1 vp1 rx g1 vgp rg h0 n0 v U'.heap L ∧ FrameEnd U o U' L ({ frames := 1, cells := 0, slots := 0, locals := 15 } : Room).cells ({ frames := 1, cells := 0, slots := 0, locals := 15 } : Room).slots) := by
  refine MetFree.of_bodySF (plainFor_of_name pn_gatherwick_maps_RedBlackTree) hisR ?_
  intro p e s m args below meth c s₁ Bd hml0 hP hK
  obtain ⟨rfl, hZ, hh⟩ := hP
  have hx := Bd.exec
  have hby := Bd.bytes
  have hml : c.maxLocals = 3 := hml0
  have hown : s.vm.findClass "gatherwick/maps/RedBlackTree" = some m.cls := findClass_of_methodNamed Bd.named
  have hnm := (name_of_methodNamed Bd.named Bd.method).1
  have hret := Bd.returns
  have hlk : meth.locks = false := BodyLoose.notSynchronized Bd
  have X0 : Stand p l e ({ frames := 1, cells := 0, slots := 0, locals := 15 } : Room) s m #[(.ref ar), (.ref nn)] below meth c s₁ [] 0 0 := Stand.of_body Bd
  have e0 : s₁.heap = h0 := by rw [← hh, Bd.state]; rfl
  have N0 := Fr.nil n0
  suffices hgo : Go p e below s ({ frames := 1, cells := 0, slots := 0, locals := 15 } : Room).cells ({ frames := 1, cells := 0, slots := 0, locals := 15 } : Room).slots (Q_rmUl Z ar nn x1 vs1 vp1 rx g1 vgp rg h0 n0) s₁ (mkF m 0 #[.val (.ref ar), .val (.ref nn), .unset] []) from hgo.enter (ef_rmUl m ar nn)
  refine Go.step (fun _ k => XS.aloadN X0.here hx rfl (hb hby d31_0) rfl rfl k) ?_
  obtain ⟨T176, X176, e176, st176⟩ := getF X0 hx hZ hown (host := "") (Or.inl (own_w hw 180 rfl)) Via.refl e0 n_left (g := (mkF m 1 #[.val (.ref ar), .val (.ref nn), .unset] [(.ref nn)])) rfl rfl (hb hby d31_1)
  refine Go.step st176 ?_
  show Go _ _ _ _ _ _ _ T176 (mkF m 4 #[.val (.ref ar), .val (.ref nn), .unset] [(.ref x1)])
  refine Go.step (fun _ k => XS.astoreN X176.here hx rfl (hb hby d31_4) rfl rfl (l' := #[.val (.ref ar), .val (.ref nn), .val (.ref x1)]) rfl k) ?_
  show Go _ _ _ _ _ _ _ T176 (mkF m 5 #[.val (.ref ar), .val (.ref nn), .val (.ref x1)] [])
  refine Go.step (fun _ k => XS.aloadN X176.here hx rfl (hb hby d31_5) rfl rfl k) ?_
  refine Go.step (fun _ k => XS.aloadN X176.here hx rfl (hb hby d31_6) rfl rfl k) ?_
  obtain ⟨T177, X177, e177, st177⟩ := getF X176 hx hZ hown (host := "") (Or.inl (own_w hw 177 rfl)) Via.refl e176 x_right (g := (mkF m 7 #[.val (.ref ar), .val (.ref nn), .val (.ref x1)] [(.ref x1), (.ref nn)])) rfl rfl (hb hby d31_7)
  refine Go.step st177 ?_
  show Go _ _ _ _ _ _ _ T177 (mkF m 10 #[.val (.ref ar), .val (.ref nn), .val (.ref x1)] [.null, (.ref nn)])
  obtain ⟨T178, h178, X178, e178, W178, st178⟩ := putF X177 hx hZ hown (host := "") (Or.inl (own_w hw 180 rfl)) Via.refl e177 n_left E_nn (Or.inl (own_w hw 179 rfl)) (own_w hw 119 rfl) (ty := (.object "gatherwick/maps/RedBlackTree$Node")) (by decide) rfl rfl (g := (mkF m 10 #[.val (.ref ar), .val (.ref nn), .val (.ref x1)] [.null, (.ref nn)])) rfl rfl (hb hby d31_10)
  refine Go.step st178 ?_
  have Fw178 := n_left.same W178
  have N178 := Fr.snoc X178 N0 g_nn
  have Z178 : n0 ≤ h178.size := Nat.le_trans Z0 (Keep.of_wr W178).1
  have KK178 := (Keep.refl h0 [nn, x1, g1]).wr W178 (Or.inl (List.mem_of_getElem? (i := 0) rfl))
  show Go _ _ _ _ _ _ _ T178 (mkF m 13 #[.val (.ref ar), .val (.ref nn), .val (.ref x1)] [])
  refine Go.step (fun _ k => XS.aloadN X178.here hx rfl (hb hby d31_13) rfl rfl k) ?_
  have f179 := (x_right.other W178 (Or.inl (Ne.symm ne1)))
  obtain ⟨T180, X180, e180, st180⟩ := getF X178 hx hZ hown (host := "") (Or.inl (own_w hw 177 rfl)) Via.refl e178 f179 (g := (mkF m 14 #[.val (.ref ar), .val (.ref nn), .val (.ref x1)] [(.ref x1)])) rfl rfl (hb hby d31_14)
  refine Go.step st180 ?_
  show Go _ _ _ _ _ _ _ T180 (mkF m 17 #[.val (.ref ar), .val (.ref nn), .val (.ref x1)] [.null])
  refine Go.step (fun _ k => XS.ifnullYes X180.here hx rfl (pc0 := 17) (pc' := 28) rfl (hb hby d31_17) rfl (by decide) (by decide) k) ?_
  show Go _ _ _ _ _ _ _ T180 (mkF m 28 #[.val (.ref ar), .val (.ref nn), .val (.ref x1)] [])
  refine Go.step (fun _ k => XS.aloadN X180.here hx rfl (hb hby d31_28) rfl rfl k) ?_
  refine Go.step (fun _ k => XS.aloadN X180.here hx rfl (hb hby d31_29) rfl rfl k) ?_
  refine Go.step (fun _ k => XS.aloadN X180.here hx rfl (hb hby d31_30) rfl rfl k) ?_
  have f182 := (E_g1.wr W178)
  have f183 := (E_x1.wr W178)
  have f184 := (n_parent.other W178 (Or.inr (slot_ne (a0 := a0) (C := "gatherwick/maps/RedBlackTree$Node") (Or.inl (own_w hw 139 rfl)) (Or.inl (own_w hw 179 rfl)) (by decide) (t := (.object "gatherwick/maps/RedBlackTree$Node")) (t' := (.object "gatherwick/maps/RedBlackTree$Node")) (by decide) (by decide))))
  have f185 := (g_right.other W178 (Or.inl ne2))
  have f186 := (g_left.other W178 (Or.inl ne2))
  have f187 := (g_parent.other W178 (Or.inl ne2))
  have f188 := (g_red.other W178 (Or.inl ne2))
  have f189 := (x_left.other W178 (Or.inl (Ne.symm ne1)))
  have f190 := (x_parent.other W178 (Or.inl (Ne.symm ne1)))
  have f191 := (x_red.other W178 (Or.inl (Ne.symm ne1)))
  obtain ⟨_, _, ⟨T181, L181, k181, n181⟩, -, X181, ⟨Lc181, hQ181, l181, y181, z181⟩, st181⟩ := Jvm.LawKit.callS X180 hx (y := (⟨"gatherwick/maps/RedBlackTree", "replace", "(Lgatherwick/maps/RedBlackTree$Node;Lgatherwick/maps/RedBlackTree$Node;Lgatherwick/maps/RedBlackTree$Node;)Lgatherwick/maps/RedBlackTree$Node;"⟩ : MethodName)) hown (mvT hZ (own_w hw 184 rfl)) (mvT hZ (own_w hw 185 rfl)) (mvT hZ (own_w hw 144 rfl)) (mvT hZ (own_w hw 186 rfl)) (by decide) (backOf (W := 0) (rmRr l Z a0 hw [] ar nn x1 g1 vgp rg vp1 vs1 .null rx h178 n0 Z178 f182 g_g1 f183 g_x1 ne3 ne2 f184 f185 f186 f187 f188 f189 f179 f190 f191) hZ (own_w hw 186 rfl) (own_w hw 144 rfl) (by decide) (by decide)) (g := (mkF m 31 #[.val (.ref ar), .val (.ref nn), .val (.ref x1)] [(.ref x1), (.ref nn), (.ref ar)])) rfl (by rw [hml]; rfl) (argsL := [(.ref ar), (.ref nn), (.ref x1)]) (rest := []) (lenOf pd__Lgatherwick_maps_RedBlackTree_Node_Lgatherwick_maps_RedBlackTree_Node_Lgatherwick_maps_RedBlackTree_Node__Lgatherwick_maps_RedBlackTree_Node_ rfl) rfl (by show 2 * 0 + _ ≤ _; exact Nat.le_of_eq rfl) (hb hby d31_31) (fun _ _ => ⟨rfl, e180, (by decide : 0 + 0 ≤ _), (by decide : 0 + 0 ≤ _)⟩)
  dsimp only [Pt.U, Pt.locs, Pt.cells, Pt.slots] at X181 l181 y181 z181 st181 hQ181
  subst l181 y181 z181
  obtain ⟨h181, e181⟩ : ∃ h, T181.heap = h := ⟨_, rfl⟩
  rw [e181] at hQ181
  obtain ⟨rfl, Nq181, Kq181, h_right_181, h_left_181, h_parent_181, h_red_181, y_left_181, y_right_181, y_parent_181, y_red_181⟩ := hQ181
  have N181 := Fr.app N178 Nq181
  have Z181 : n0 ≤ h181.size := Nat.le_trans Z178 Kq181.1
  have KK181 := KK178.trans Kq181 (allS (Or.inl (List.mem_of_getElem? (i := 2) rfl)) (allS (Or.inl (List.mem_of_getElem? (i := 1) rfl)) all0))
  refine Go.step st181 ?_
  show Go _ _ _ _ _ _ _ T181 (mkF m 34 #[.val (.ref ar), .val (.ref nn), .val (.ref x1)] [(.ref ar)])
  refine Go.step (fun _ k => XS.astoreN X181.here hx rfl (hb hby d31_34) rfl rfl (l' := #[.val (.ref ar), .val (.ref nn), .val (.ref x1)]) rfl k) ?_
  show Go _ _ _ _ _ _ _ T181 (mkF m 35 #[.val (.ref ar), .val (.ref nn), .val (.ref x1)] [])
  refine Go.step (fun _ k => XS.aloadN X181.here hx rfl (hb hby d31_35) rfl rfl k) ?_
  refine Go.step (fun _ k => XS.aloadN X181.here hx rfl (hb hby d31_36) rfl rfl k) ?_
  have f192 := (f183.keep Kq181)
  obtain ⟨T193, h193, X193, e193, W193, st193⟩ := putF X181 hx hZ hown (host := "") (Or.inl (own_w hw 177 rfl)) Via.refl e181 y_right_181 f192 (Or.inl (own_w hw 176 rfl)) (own_w hw 119 rfl) (ty := (.object "gatherwick/maps/RedBlackTree$Node")) (by decide) rfl rfl (g := (mkF m 37 #[.val (.ref ar), .val (.ref nn), .val (.ref x1)] [(.ref nn), (.ref x1)])) rfl rfl (hb hby d31_37)
  refine Go.step st193 ?_
  have Fw193 := y_right_181.same W193
  have N193 := Fr.snoc X193 N181 g_x1
  have Z193 : n0 ≤ h193.size := Nat.le_trans Z181 (Keep.of_wr W193).1
  have KK193 := KK181.wr W193 (Or.inl (List.mem_of_getElem? (i := 1) rfl))
  show Go _ _ _ _ _ _ _ T193 (mkF m 40 #[.val (.ref ar), .val (.ref nn), .val (.ref x1)] [])
  refine Go.step (fun _ k => XS.aloadN X193.here hx rfl (hb hby d31_40) rfl rfl k) ?_
  refine Go.step (fun _ k => XS.aloadN X193.here hx rfl (hb hby d31_41) rfl rfl k) ?_
  have f194 := ((f184.keep Kq181 (ninS (Ne.symm ne2) (ninS ne1 nin0))).other W193 (Or.inl ne1))
  have f195 := (((E_nn.wr W178).keep Kq181).wr W193)
  obtain ⟨T196, h196, X196, e196, W196, st196⟩ := putF X193 hx hZ hown (host := "") (Or.inl (own_w hw 146 rfl)) Via.refl e193 f194 f195 (Or.inl (own_w hw 139 rfl)) (own_w hw 119 rfl) (ty := (.object "gatherwick/maps/RedBlackTree$Node")) (by decide) rfl rfl (g := (mkF m 42 #[.val (.ref ar), .val (.ref nn), .val (.ref x1)] [(.ref x1), (.ref nn)])) rfl rfl (hb hby d31_42)
  refine Go.step st196 ?_
  have Fw196 := f194.same W196
  have N196 := Fr.snoc X196 N193 g_nn
  have Z196 : n0 ≤ h196.size := Nat.le_trans Z193 (Keep.of_wr W196).1
  have KK196 := KK193.wr W196 (Or.inl (List.mem_of_getElem? (i := 0) rfl))
  show Go _ _ _ _ _ _ _ T196 (mkF m 45 #[.val (.ref ar), .val (.ref nn), .val (.ref x1)] [])
  refine Go.step (fun _ k => XS.aloadN X196.here hx rfl (hb hby d31_45) rfl rfl k) ?_
  have f197 := (((Fw178.keep Kq181 (ninS (Ne.symm ne2) (ninS ne1 nin0))).other W193 (Or.inl ne1)).other W196 (Or.inr (slot_ne (a0 := a0) (C := "gatherwick/maps/RedBlackTree$Node") (Or.inl (own_w hw 179 rfl)) (Or.inl (own_w hw 139 rfl)) (by decide) (t := (.object "gatherwick/maps/RedBlackTree$Node")) (t' := (.object "gatherwick/maps/RedBlackTree$Node")) (by decide) (by decide))))
  have f198 := ((y_left_181.other W193 (Or.inr (slot_ne (a0 := a0) (C := "gatherwick/maps/RedBlackTree$Node") (Or.inl (own_w hw 179 rfl)) (Or.inl (own_w hw 176 rfl)) (by decide) (t := (.object "gatherwick/maps/RedBlackTree$Node")) (t' := (.object "gatherwick/maps/RedBlackTree$Node")) (by decide) (by decide)))).other W196 (Or.inl (Ne.symm ne1)))
  have f199 := (Fw193.other W196 (Or.inl (Ne.symm ne1)))
  have f200 := ((y_parent_181.other W193 (Or.inr (slot_ne (a0 := a0) (C := "gatherwick/maps/RedBlackTree$Node") (Or.inl (own_w hw 139 rfl)) (Or.inl (own_w hw 176 rfl)) (by decide) (t := (.object "gatherwick/maps/RedBlackTree$Node")) (t' := (.object "gatherwick/maps/RedBlackTree$Node")) (by decide) (by decide)))).other W196 (Or.inl (Ne.symm ne1)))
  have f201 := ((y_red_181.other W193 (Or.inr (slot_ne (a0 := a0) (C := "gatherwick/maps/RedBlackTree$Node") (Or.inl (own_w hw 133 rfl)) (Or.inl (own_w hw 176 rfl)) (by decide) (t := .boolean) (t' := (.object "gatherwick/maps/RedBlackTree$Node")) (by decide) (by decide)))).other W196 (Or.inl (Ne.symm ne1)))
  have f202 := ((h_right_181.other W193 (Or.inl ne3)).other W196 (Or.inl ne2))
  have f203 := ((h_left_181.other W193 (Or.inl ne3)).other W196 (Or.inl ne2))
  have f204 := ((h_parent_181.other W193 (Or.inl ne3)).other W196 (Or.inl ne2))
  have f205 := ((h_red_181.other W193 (Or.inl ne3)).other W196 (Or.inl ne2))
  exact Go.retA X196 hx hret hlk rfl rfl (hb hby d31_46) e196 (by decide) (by decide) ⟨rfl, N196, KK196, f197, Fw196, f198, f199, f200, f201, f202, f203, f204, f205⟩
theorem d33_0 : decode prog_57_method_10_code 0 = .ok (.aload_n 1, 1) := by decide +kernel
theorem d33_1 : decode prog_57_method_10_code 1 = .ok (.getfield 16, 3) := by decide +kernel
theorem d33_4 : decode prog_57_method_10_code 4 = .ok (.astore_n 2, 1) := by decide +kernel
theorem d33_5 : decode prog_57_method_10_code 5 = .ok (.aload_n 1, 1) := by decide +kernel
theorem d33_6 : decode prog_57_method_10_code 6 = .ok (.aload_n 2, 1) := by decide +kernel
theorem d33_7 : decode prog_57_method_10_code 7 = .ok (.getfield 13, 3) := by decide +kernel
theorem d33_10 : decode prog_57_method_10_code 10 = .ok (.putfield 16, 3) := by decide +kernel
theorem d33_13 : decode prog_57_method_10_code 13 = .ok (.aload_n 2, 1) := by decide +kernel
theorem d33_14 : decode prog_57_method_10_code 14 = .ok (.getfield 13, 3) := by decide +kernel
theorem d33_17 : decode prog_57_method_10_code 17 = .ok (.ifnull 11, 3) := by decide +kernel
theorem d33_28 : decode prog_57_method_10_code 28 = .ok (.aload_n 0, 1) := by decide +kernel
theorem d33_29 : decode prog_57_method_10_code 29 = .ok (.aload_n 1, 1) := by decide +kernel
theorem d33_30 : decode prog_57_method_10_code 30 = .ok (.aload_n 2, 1) := by decide +kernel
theorem d33_31 : decode prog_57_method_10_code 31 = .ok (.invokestatic 39, 3) := by decide +kernel
theorem d33_34 : decode prog_57_method_10_code 34 = .ok (.astore_n 0, 1) := by decide +kernel
theorem d33_35 : decode prog_57_method_10_code 35 = .ok (.aload_n 2, 1) := by decide +kernel
theorem d33_36 : decode prog_57_method_10_code 36 = .ok (.aload_n 1, 1) := by decide +kernel
theorem d33_37 : decode prog_57_method_10_code 37 = .ok (.putfield 13, 3) := by decide +kernel
theorem d33_40 : decode prog_57_method_10_code 40 = .ok (.aload_n 1, 1) := by decide +kernel
theorem d33_41 : decode prog_57_method_10_code 41 = .ok (.aload_n 2, 1) := by decide +kernel
theorem d33_42 : decode prog_57_method_10_code 42 = .ok (.putfield 7, 3) := by decide +kernel
theorem d33_45 : decode prog_57_method_10_code 45 = .ok (.aload_n 0, 1) := by decide +kernel
theorem d33_46 : decode prog_57_method_10_code 46 = .ok (.areturn, 1) := by decide +kernel
theorem ef_rmTr (m : MethodId) (ar : Addr) (nn : Addr) : entryFrame m #[(.ref ar), (.ref nn)] 3 = mkF m 0 #[.val (.ref ar), .val (.ref nn), .unset] [] := by first | (simp [entryFrame, mkF, argsToLocals, Value.category]; done) | rfl
def Q_rmTr (Z : State) (ar : Addr) (nn : Addr) (x1 : Addr) (vs1 : Value) (vp1 : Value) (rx : Int32) (h0 : Heap) (n0 : Nat) (v : Option Value) (h : Heap) (L : List Loc) : Prop := (v = some (.ref x1)) ∧ (Fr n0 L) ∧ (Keep h0 h [nn, x1]) ∧ (Fld Z h nn "gatherwick/maps/RedBlackTree$Node" "right" "Lgatherwick/maps/RedBlackTree$Node;" .null) ∧ (Fld Z h nn "gatherwick/maps/RedBlackTree$Node" "parent" "Lgatherwick/maps/RedBlackTree$Node;" (.ref x1)) ∧ (Fld Z h x1 "gatherwick/maps/RedBlackTree$Node" "right" "Lgatherwick/maps/RedBlackTree$Node;" vs1) ∧ (Fld Z h x1 "gatherwick/maps/RedBlackTree$Node" "left" "Lgatherwick/maps/RedBlackTree$Node;" (.ref nn)) ∧ (Fld Z h x1 "gatherwick/maps/RedBlackTree$Node" "parent" "Lgatherwick/maps/RedBlackTree$Node;" .null) ∧ (Fld Z h x1 "gatherwick/maps/RedBlackTree$Node" "red" "Z" (.int rx))
theorem rmTr (l : Launch) (Z : State) (a0 : Array Value) (hw : ∀ d ∈ tables_1, d.before a0 Z = true) (ws : List Jvm.Cond) (ar : Addr) (nn : Addr) (x1 : Addr) (vs1 : Value) (vp1 : Value) (rx : Int32) (h0 : Heap) (n0 : Nat) (Z0 : n0 ≤ h0.size) (E_nn : Exa Z h0 nn "gatherwick/maps/RedBlackTree$Node") (g_nn : n0 ≤ nn) (E_x1 : Exa Z h0 x1 "gatherwick/maps/RedBlackTree$Node") (g_x1 : n0 ≤ x1) (ne1 : nn ≠ x1) (n_right : Fld Z h0 nn "gatherwick/maps/RedBlackTree$Node" "right" "Lgatherwick/maps/RedBlackTree$Node;" (.ref x1)) (n_parent : Fld Z h0 nn "gatherwick/maps/RedBlackTree$Node" "parent" "Lgatherwick/maps/RedBlackTree$Node;" .null) (x_right : Fld Z h0 x1 "gatherwick/maps/RedBlackTree$Node" "right" "Lgatherwick/maps/RedBlackTree$Node;" vs1) (x_left : Fld Z h0 x1 "gatherwick/maps/RedBlackTree$Node" "left" "Lgatherwick/maps/RedBlackTree$Node;" .null) (x_parent : Fld Z h0 x1 "gatherwick/maps/RedBlackTree$Node" "parent" "Lgatherwick/maps/RedBlackTree$Node;" vp1) (x_red : Fld Z h0 x1 "gatherwick/maps/RedBlackTree$Node" "red" "Z" (.int rx)) :
    MetFree l (⟨"gatherwick/maps/RedBlackTree", "rotateLeft", "(Lgatherwick/maps/RedBlackTree$Node;Lgatherwick/maps/RedBlackTree$Node;)Lgatherwick/maps/RedBlackTree$Node;"⟩ : MethodName) (head1 (Jvm.Cond.code (⟨"gatherwick/maps/RedBlackTree", "rotateLeft", "(Lgatherwick/maps/RedBlackTree$Node;Lgatherwick/maps/RedBlackTree$Node;)Lgatherwick/maps/RedBlackTree$Node;"⟩ : MethodName) prog_57_method_10_code 3 (some (.object "gatherwick/maps/RedBlackTree$Node")) :: ws) ({ frames := 1, cells := 0, slots := 0, locals := 15 } : Room)) (fun aA U => aA = #[(.ref ar), (.ref nn)] ∧ Z.Warmed39 U.vm ∧ U.heap = h0) (fun _ _ _ _ _ => True) (fun _ U o U' => ∃ v L, o = .returned v ∧ Q_rmTr Z ar nn x1 vs1 vp1 rx h0 n0 v U'.heap L ∧ FrameEnd U o U' L ({ frames := 1, cells := 0, slots := 0, locals := 15 } : Room).cells ({ frames := 1, cells := 0, slots := 0, locals := 15 } : Room).slots) := by
  refine MetFree.of_bodySF (plainFor_of_name pn_gatherwick_maps_RedBlackTree) hisR ?_
  intro p e s m args below meth c s₁ Bd hml0 hP hK
  obtain ⟨rfl, hZ, hh⟩ := hP
  have hx := Bd.exec
  have hby := Bd.bytes
  have hml : c.maxLocals = 3 := hml0
  have hown : s.vm.findClass "gatherwick/maps/RedBlackTree" = some m.cls := findClass_of_methodNamed Bd.named
  have hnm := (name_of_methodNamed Bd.named Bd.method).1
  have hret := Bd.returns
  have hlk : meth.locks = false := BodyLoose.notSynchronized Bd
  have X0 : Stand p l e ({ frames := 1, cells := 0, slots := 0, locals := 15 } : Room) s m #[(.ref ar), (.ref nn)] below meth c s₁ [] 0 0 := Stand.of_body Bd
  have e0 : s₁.heap = h0 := by rw [← hh, Bd.state]; rfl
  have N0 := Fr.nil n0
  suffices hgo : Go p e below s ({ frames := 1, cells := 0, slots := 0, locals := 15 } : Room).cells ({ frames := 1, cells := 0, slots := 0, locals := 15 } : Room).slots (Q_rmTr Z ar nn x1 vs1 vp1 rx h0 n0) s₁ (mkF m 0 #[.val (.ref ar), .val (.ref nn), .unset] []) from hgo.enter (ef_rmTr m ar nn)
  refine Go.step (fun _ k => XS.aloadN X0.here hx rfl (hb hby d33_0) rfl rfl k) ?_
  obtain ⟨T206, X206, e206, st206⟩ := getF X0 hx hZ hown (host := "") (Or.inl (own_w hw 177 rfl)) Via.refl e0 n_right (g := (mkF m 1 #[.val (.ref ar), .val (.ref nn), .unset] [(.ref nn)])) rfl rfl (hb hby d33_1)
  refine Go.step st206 ?_
  show Go _ _ _ _ _ _ _ T206 (mkF m 4 #[.val (.ref ar), .val (.ref nn), .unset] [(.ref x1)])
  refine Go.step (fun _ k => XS.astoreN X206.here hx rfl (hb hby d33_4) rfl rfl (l' := #[.val (.ref ar), .val (.ref nn), .val (.ref x1)]) rfl k) ?_
  show Go _ _ _ _ _ _ _ T206 (mkF m 5 #[.val (.ref ar), .val (.ref nn), .val (.ref x1)] [])
  refine Go.step (fun _ k => XS.aloadN X206.here hx rfl (hb hby d33_5) rfl rfl k) ?_
  refine Go.step (fun _ k => XS.aloadN X206.here hx rfl (hb hby d33_6) rfl rfl k) ?_
  obtain ⟨T207, X207, e207, st207⟩ := getF X206 hx hZ hown (host := "") (Or.inl (own_w hw 180 rfl)) Via.refl e206 x_left (g := (mkF m 7 #[.val (.ref ar), .val (.ref nn), .val (.ref x1)] [(.ref x1), (.ref nn)])) rfl rfl (hb hby d33_7)
  refine Go.step st207 ?_
  show Go _ _ _ _ _ _ _ T207 (mkF m 10 #[.val (.ref ar), .val (.ref nn), .val (.ref x1)] [.null, (.ref nn)])
  obtain ⟨T208, h208, X208, e208, W208, st208⟩ := putF X207 hx hZ hown (host := "") (Or.inl (own_w hw 177 rfl)) Via.refl e207 n_right E_nn (Or.inl (own_w hw 176 rfl)) (own_w hw 119 rfl) (ty := (.object "gatherwick/maps/RedBlackTree$Node")) (by decide) rfl rfl (g := (mkF m 10 #[.val (.ref ar), .val (.ref nn), .val (.ref x1)] [.null, (.ref nn)])) rfl rfl (hb hby d33_10)
  refine Go.step st208 ?_
  have Fw208 := n_right.same W208
  have N208 := Fr.snoc X208 N0 g_nn
  have Z208 : n0 ≤ h208.size := Nat.le_trans Z0 (Keep.of_wr W208).1
  have KK208 := (Keep.refl h0 [nn, x1]).wr W208 (Or.inl (List.mem_of_getElem? (i := 0) rfl))
  show Go _ _ _ _ _ _ _ T208 (mkF m 13 #[.val (.ref ar), .val (.ref nn), .val (.ref x1)] [])
  refine Go.step (fun _ k => XS.aloadN X208.here hx rfl (hb hby d33_13) rfl rfl k) ?_
  have f209 := (x_left.other W208 (Or.inl (Ne.symm ne1)))
  obtain ⟨T210, X210, e210, st210⟩ := getF X208 hx hZ hown (host := "") (Or.inl (own_w hw 180 rfl)) Via.refl e208 f209 (g := (mkF m 14 #[.val (.ref ar), .val (.ref nn), .val (.ref x1)] [(.ref x1)])) rfl rfl (hb hby d33_14)
  refine Go.step st210 ?_
  show Go _ _ _ _ _ _ _ T210 (mkF m 17 #[.val (.ref ar), .val (.ref nn), .val (.ref x1)] [.null])
  refine Go.step (fun _ k => XS.ifnullYes X210.here hx rfl (pc0 := 17) (pc' := 28) rfl (hb hby d33_17) rfl (by decide) (by decide) k) ?_
  show Go _ _ _ _ _ _ _ T210 (mkF m 28 #[.val (.ref ar), .val (.ref nn), .val (.ref x1)] [])
  refine Go.step (fun _ k => XS.aloadN X210.here hx rfl (hb hby d33_28) rfl rfl k) ?_
  refine Go.step (fun _ k => XS.aloadN X210.here hx rfl (hb hby d33_29) rfl rfl k) ?_
  refine Go.step (fun _ k => XS.aloadN X210.here hx rfl (hb hby d33_30) rfl rfl k) ?_
  have f212 := (E_x1.wr W208)
  have f213 := (n_parent.other W208 (Or.inr (slot_ne (a0 := a0) (C := "gatherwick/maps/RedBlackTree$Node") (Or.inl (own_w hw 139 rfl)) (Or.inl (own_w hw 176 rfl)) (by decide) (t := (.object "gatherwick/maps/RedBlackTree$Node")) (t' := (.object "gatherwick/maps/RedBlackTree$Node")) (by decide) (by decide))))
  have f214 := (x_right.other W208 (Or.inl (Ne.symm ne1)))
  have f215 := (x_parent.other W208 (Or.inl (Ne.symm ne1)))
  have f216 := (x_red.other W208 (Or.inl (Ne.symm ne1)))
  obtain ⟨_, _, ⟨T211, L211, k211, n211⟩, -, X211, ⟨Lc211, hQ211, l211, y211, z211⟩, st211⟩ := Jvm.LawKit.callS X210 hx (y := (⟨"gatherwick/maps/RedBlackTree", "replace", "(Lgatherwick/maps/RedBlackTree$Node;Lgatherwick/maps/RedBlackTree$Node;Lgatherwick/maps/RedBlackTree$Node;)Lgatherwick/maps/RedBlackTree$Node;"⟩ : MethodName)) hown (mvT hZ (own_w hw 184 rfl)) (mvT hZ (own_w hw 185 rfl)) (mvT hZ (own_w hw 144 rfl)) (mvT hZ (own_w hw 186 rfl)) (by decide) (backOf (W := 0) (rmRt l Z a0 hw [] ar nn x1 vp1 .null vs1 rx h208 n0 Z208 f212 g_x1 f213 f209 f214 f215 f216) hZ (own_w hw 186 rfl) (own_w hw 144 rfl) (by decide) (by decide)) (g := (mkF m 31 #[.val (.ref ar), .val (.ref nn), .val (.ref x1)] [(.ref x1), (.ref nn), (.ref ar)])) rfl (by rw [hml]; rfl) (argsL := [(.ref ar), (.ref nn), (.ref x1)]) (rest := []) (lenOf pd__Lgatherwick_maps_RedBlackTree_Node_Lgatherwick_maps_RedBlackTree_Node_Lgatherwick_maps_RedBlackTree_Node__Lgatherwick_maps_RedBlackTree_Node_ rfl) rfl (by show 2 * 0 + _ ≤ _; exact Nat.le_of_eq rfl) (hb hby d33_31) (fun _ _ => ⟨rfl, e210, (by decide : 0 + 0 ≤ _), (by decide : 0 + 0 ≤ _)⟩)
  dsimp only [Pt.U, Pt.locs, Pt.cells, Pt.slots] at X211 l211 y211 z211 st211 hQ211
  subst l211 y211 z211
  obtain ⟨h211, e211⟩ : ∃ h, T211.heap = h := ⟨_, rfl⟩
  rw [e211] at hQ211
  obtain ⟨rfl, Nq211, Kq211, y_left_211, y_right_211, y_parent_211, y_red_211⟩ := hQ211
  have N211 := Fr.app N208 Nq211
  have Z211 : n0 ≤ h211.size := Nat.le_trans Z208 Kq211.1
  have KK211 := KK208.trans Kq211 (allS (Or.inl (List.mem_of_getElem? (i := 1) rfl)) all0)
  refine Go.step st211 ?_
  show Go _ _ _ _ _ _ _ T211 (mkF m 34 #[.val (.ref ar), .val (.ref nn), .val (.ref x1)] [(.ref x1)])
  refine Go.step (fun _ k => XS.astoreN X211.here hx rfl (hb hby d33_34) rfl rfl (l' := #[.val (.ref x1), .val (.ref nn), .val (.ref x1)]) rfl k) ?_
  show Go _ _ _ _ _ _ _ T211 (mkF m 35 #[.val (.ref x1), .val (.ref nn), .val (.ref x1)] [])
  refine Go.step (fun _ k => XS.aloadN X211.here hx rfl (hb hby d33_35) rfl rfl k) ?_
  refine Go.step (fun _ k => XS.aloadN X211.here hx rfl (hb hby d33_36) rfl rfl k) ?_
  have f217 := (f212.keep Kq211)
  obtain ⟨T218, h218, X218, e218, W218, st218⟩ := putF X211 hx hZ hown (host := "") (Or.inl (own_w hw 180 rfl)) Via.refl e211 y_left_211 f217 (Or.inl (own_w hw 179 rfl)) (own_w hw 119 rfl) (ty := (.object "gatherwick/maps/RedBlackTree$Node")) (by decide) rfl rfl (g := (mkF m 37 #[.val (.ref x1), .val (.ref nn), .val (.ref x1)] [(.ref nn), (.ref x1)])) rfl rfl (hb hby d33_37)
  refine Go.step st218 ?_
  have Fw218 := y_left_211.same W218
  have N218 := Fr.snoc X218 N211 g_x1
  have Z218 : n0 ≤ h218.size := Nat.le_trans Z211 (Keep.of_wr W218).1
  have KK218 := KK211.wr W218 (Or.inl (List.mem_of_getElem? (i := 1) rfl))
  show Go _ _ _ _ _ _ _ T218 (mkF m 40 #[.val (.ref x1), .val (.ref nn), .val (.ref x1)] [])
  refine Go.step (fun _ k => XS.aloadN X218.here hx rfl (hb hby d33_40) rfl rfl k) ?_
  refine Go.step (fun _ k => XS.aloadN X218.here hx rfl (hb hby d33_41) rfl rfl k) ?_
  have f219 := ((f213.keep Kq211 (ninS ne1 nin0)).other W218 (Or.inl ne1))
  have f220 := (((E_nn.wr W208).keep Kq211).wr W218)
  obtain ⟨T221, h221, X221, e221, W221, st221⟩ := putF X218 hx hZ hown (host := "") (Or.inl (own_w hw 146 rfl)) Via.refl e218 f219 f220 (Or.inl (own_w hw 139 rfl)) (own_w hw 119 rfl) (ty := (.object "gatherwick/maps/RedBlackTree$Node")) (by decide) rfl rfl (g := (mkF m 42 #[.val (.ref x1), .val (.ref nn), .val (.ref x1)] [(.ref x1), (.ref nn)])) rfl rfl (hb hby d33_42)
  refine Go.step st221 ?_
  have Fw221 := f219.same W221
  have N221 := Fr.snoc X221 N218 g_nn
  have Z221 : n0 ≤ h221.size := Nat.le_trans Z218 (Keep.of_wr W221).1
  have KK221 := KK218.wr W221 (Or.inl (List.mem_of_getElem? (i := 0) rfl))
  show Go _ _ _ _ _ _ _ T221 (mkF m 45 #[.val (.ref x1), .val (.ref nn), .val (.ref x1)] [])
  refine Go.step (fun _ k => XS.aloadN X221.here hx rfl (hb hby d33_45) rfl rfl k) ?_
  have f222 := (((Fw208.keep Kq211 (ninS ne1 nin0)).other W218 (Or.inl ne1)).other W221 (Or.inr (slot_ne (a0 := a0) (C := "gatherwick/maps/RedBlackTree$Node") (Or.inl (own_w hw 176 rfl)) (Or.inl (own_w hw 139 rfl)) (by decide) (t := (.object "gatherwick/maps/RedBlackTree$Node")) (t' := (.object "gatherwick/maps/RedBlackTree$Node")) (by decide) (by decide))))
  have f223 := ((y_right_211.other W218 (Or.inr (slot_ne (a0 := a0) (C := "gatherwick/maps/RedBlackTree$Node") (Or.inl (own_w hw 176 rfl)) (Or.inl (own_w hw 179 rfl)) (by decide) (t := (.object "gatherwick/maps/RedBlackTree$Node")) (t' := (.object "gatherwick/maps/RedBlackTree$Node")) (by decide) (by decide)))).other W221 (Or.inl (Ne.symm ne1)))
  have f224 := (Fw218.other W221 (Or.inl (Ne.symm ne1)))
  have f225 := ((y_parent_211.other W218 (Or.inr (slot_ne (a0 := a0) (C := "gatherwick/maps/RedBlackTree$Node") (Or.inl (own_w hw 139 rfl)) (Or.inl (own_w hw 179 rfl)) (by decide) (t := (.object "gatherwick/maps/RedBlackTree$Node")) (t' := (.object "gatherwick/maps/RedBlackTree$Node")) (by decide) (by decide)))).other W221 (Or.inl (Ne.symm ne1)))
  have f226 := ((y_red_211.other W218 (Or.inr (slot_ne (a0 := a0) (C := "gatherwick/maps/RedBlackTree$Node") (Or.inl (own_w hw 133 rfl)) (Or.inl (own_w hw 179 rfl)) (by decide) (t := .boolean) (t' := (.object "gatherwick/maps/RedBlackTree$Node")) (by decide) (by decide)))).other W221 (Or.inl (Ne.symm ne1)))
  exact Go.retA X221 hx hret hlk rfl rfl (hb hby d33_46) e221 (by decide) (by decide) ⟨rfl, N221, KK221, f222, Fw221, f223, f224, f225, f226⟩
theorem ef_rmUr (m : MethodId) (ar : Addr) (nn : Addr) : entryFrame m #[(.ref ar), (.ref nn)] 3 = mkF m 0 #[.val (.ref ar), .val (.ref nn), .unset] [] := by first | (simp [entryFrame, mkF, argsToLocals, Value.category]; done) | rfl
def Q_rmUr (Z : State) (ar : Addr) (nn : Addr) (x1 : Addr) (vs1 : Value) (vp1 : Value) (rx : Int32) (g1 : Addr) (vgo : Value) (vgp : Value) (rg : Int32) (h0 : Heap) (n0 : Nat) (v : Option Value) (h : Heap) (L : List Loc) : Prop := (v = some (.ref ar)) ∧ (Fr n0 L) ∧ (Keep h0 h [nn, x1, g1]) ∧ (Fld Z h nn "gatherwick/maps/RedBlackTree$Node" "right" "Lgatherwick/maps/RedBlackTree$Node;" .null) ∧ (Fld Z h nn "gatherwick/maps/RedBlackTree$Node" "parent" "Lgatherwick/maps/RedBlackTree$Node;" (.ref x1)) ∧ (Fld Z h x1 "gatherwick/maps/RedBlackTree$Node" "right" "Lgatherwick/maps/RedBlackTree$Node;" vs1) ∧ (Fld Z h x1 "gatherwick/maps/RedBlackTree$Node" "left" "Lgatherwick/maps/RedBlackTree$Node;" (.ref nn)) ∧ (Fld Z h x1 "gatherwick/maps/RedBlackTree$Node" "parent" "Lgatherwick/maps/RedBlackTree$Node;" (.ref g1)) ∧ (Fld Z h x1 "gatherwick/maps/RedBlackTree$Node" "red" "Z" (.int rx)) ∧ (Fld Z h g1 "gatherwick/maps/RedBlackTree$Node" "left" "Lgatherwick/maps/RedBlackTree$Node;" (.ref x1)) ∧ (Fld Z h g1 "gatherwick/maps/RedBlackTree$Node" "right" "Lgatherwick/maps/RedBlackTree$Node;" vgo) ∧ (Fld Z h g1 "gatherwick/maps/RedBlackTree$Node" "parent" "Lgatherwick/maps/RedBlackTree$Node;" vgp) ∧ (Fld Z h g1 "gatherwick/maps/RedBlackTree$Node" "red" "Z" (.int rg))
theorem rmUr (l : Launch) (Z : State) (a0 : Array Value) (hw : ∀ d ∈ tables_1, d.before a0 Z = true) (ws : List Jvm.Cond) (ar : Addr) (nn : Addr) (x1 : Addr) (vs1 : Value) (vp1 : Value) (rx : Int32) (g1 : Addr) (vgo : Value) (vgp : Value) (rg : Int32) (h0 : Heap) (n0 : Nat) (Z0 : n0 ≤ h0.size) (E_nn : Exa Z h0 nn "gatherwick/maps/RedBlackTree$Node") (g_nn : n0 ≤ nn) (E_x1 : Exa Z h0 x1 "gatherwick/maps/RedBlackTree$Node") (g_x1 : n0 ≤ x1) (E_g1 : Exa Z h0 g1 "gatherwick/maps/RedBlackTree$Node") (g_g1 : n0 ≤ g1) (ne1 : nn ≠ x1) (ne2 : g1 ≠ nn) (ne3 : g1 ≠ x1) (n_right : Fld Z h0 nn "gatherwick/maps/RedBlackTree$Node" "right" "Lgatherwick/maps/RedBlackTree$Node;" (.ref x1)) (n_parent : Fld Z h0 nn "gatherwick/maps/RedBlackTree$Node" "parent" "Lgatherwick/maps/RedBlackTree$Node;" (.ref g1)) (x_right : Fld Z h0 x1 "gatherwick/maps/RedBlackTree$Node" "right" "Lgatherwick/maps/RedBlackTree$Node;" vs1) (x_left : Fld Z h0 x1 "gatherwick/maps/RedBlackTree$Node" "left" "Lgatherwick/maps/RedBlackTree$Node;" .null) (x_parent : Fld Z h0 x1 "gatherwick/maps/RedBlackTree$Node" "parent" "Lgatherwick/maps/RedBlackTree$Node;" vp1) (x_red : Fld Z h0 x1 "gatherwick/maps/RedBlackTree$Node" "red" "Z" (.int rx)) (g_left : Fld Z h0 g1 "gatherwick/maps/RedBlackTree$Node" "left" "Lgatherwick/maps/RedBlackTree$Node;" (.ref nn)) (g_right : Fld Z h0 g1 "gatherwick/maps/RedBlackTree$Node" "right" "Lgatherwick/maps/RedBlackTree$Node;" vgo) (g_parent : Fld Z h0 g1 "gatherwick/maps/RedBlackTree$Node" "parent" "Lgatherwick/maps/RedBlackTree$Node;" vgp) (g_red : Fld Z h0 g1 "gatherwick/maps/RedBlackTree$Node" "red" "Z" (.int rg)) :
    MetFree l (⟨"gatherwick/maps/RedBlackTree", "rotateLeft", "(Lgatherwick/maps/RedBlackTree$Node;Lgatherwick/maps/RedBlackTree$Node;)Lgatherwick/maps/RedBlackTree$Node;"⟩ : MethodName) (head1 (Jvm.Cond.code (⟨"gatherwick/maps/RedBlackTree", "rotateLeft", "(Lgatherwick/maps/RedBlackTree$Node;Lgatherwick/maps/RedBlackTree$Node;)Lgatherwick/maps/RedBlackTree$Node;"⟩ : MethodName) prog_57_method_10_code 3 (some (.object "gatherwick/maps/RedBlackTree$Node")) :: ws) ({ frames := 1, cells := 0, slots := 0, locals := 15 } : Room)) (fun aA U => aA = #[(.ref ar), (.ref nn)] ∧ Z.Warmed39 U.vm ∧ U.heap = h0) (fun _ _ _ _ _ => True) (fun _ U o U' => ∃ v L, o = .returned v ∧ Q_rmUr Z ar nn x1 vs1 vp1 rx g1 vgo vgp rg h0 n0 v U'.heap L ∧ FrameEnd U o U' L ({ frames := 1, cells := 0, slots := 0, locals := 15 } : Room).cells ({ frames := 1, cells := 0, slots := 0, locals := 15 } : Room).slots) := by
  refine MetFree.of_bodySF (plainFor_of_name pn_gatherwick_maps_RedBlackTree) hisR ?_
  intro p e s m args below meth c s₁ Bd hml0 hP hK
  obtain ⟨rfl, hZ, hh⟩ := hP
  have hx := Bd.exec
  have hby := Bd.bytes
  have hml : c.maxLocals = 3 := hml0
  have hown : s.vm.findClass "gatherwick/maps/RedBlackTree" = some m.cls := findClass_of_methodNamed Bd.named
  have hnm := (name_of_methodNamed Bd.named Bd.method).1
  have hret := Bd.returns
  have hlk : meth.locks = false := BodyLoose.notSynchronized Bd
  have X0 : Stand p l e ({ frames := 1, cells := 0, slots := 0, locals := 15 } : Room) s m #[(.ref ar), (.ref nn)] below meth c s₁ [] 0 0 := Stand.of_body Bd
  have e0 : s₁.heap = h0 := by rw [← hh, Bd.state]; rfl
  have N0 := Fr.nil n0
  suffices hgo : Go p e below s ({ frames := 1, cells := 0, slots := 0, locals := 15 } : Room).cells ({ frames := 1, cells := 0, slots := 0, locals := 15 } : Room).slots (Q_rmUr Z ar nn x1 vs1 vp1 rx g1 vgo vgp rg h0 n0) s₁ (mkF m 0 #[.val (.ref ar), .val (.ref nn), .unset] []) from hgo.enter (ef_rmUr m ar nn)
  refine Go.step (fun _ k => XS.aloadN X0.here hx rfl (hb hby d33_0) rfl rfl k) ?_
  obtain ⟨T227, X227, e227, st227⟩ := getF X0 hx hZ hown (host := "") (Or.inl (own_w hw 177 rfl)) Via.refl e0 n_right (g := (mkF m 1 #[.val (.ref ar), .val (.ref nn), .unset] [(.ref nn)])) rfl rfl (hb hby d33_1)
  refine Go.step st227 ?_
  show Go _ _ _ _ _ _ _ T227 (mkF m 4 #[.val (.ref ar), .val (.ref nn), .unset] [(.ref x1)])
  refine Go.step (fun _ k => XS.astoreN X227.here hx rfl (hb hby d33_4) rfl rfl (l' := #[.val (.ref ar), .val (.ref nn), .val (.ref x1)]) rfl k) ?_
  show Go _ _ _ _ _ _ _ T227 (mkF m 5 #[.val (.ref ar), .val (.ref nn), .val (.ref x1)] [])
  refine Go.step (fun _ k => XS.aloadN X227.here hx rfl (hb hby d33_5) rfl rfl k) ?_
  refine Go.step (fun _ k => XS.aloadN X227.here hx rfl (hb hby d33_6) rfl rfl k) ?_
  obtain ⟨T228, X228, e228, st228⟩ := getF X227 hx hZ hown (host := "") (Or.inl (own_w hw 180 rfl)) Via.refl e227 x_left (g := (mkF m 7 #[.val (.ref ar), .val (.ref nn), .val (.ref x1)] [(.ref x1), (.ref nn)])) rfl rfl (hb hby d33_7)
  refine Go.step st228 ?_
  show Go _ _ _ _ _ _ _ T228 (mkF m 10 #[.val (.ref ar), .val (.ref nn), .val (.ref x1)] [.null, (.ref nn)])
  obtain ⟨T229, h229, X229, e229, W229, st229⟩ := putF X228 hx hZ hown (host := "") (Or.inl (own_w hw 177 rfl)) Via.refl e228 n_right E_nn (Or.inl (own_w hw 176 rfl)) (own_w hw 119 rfl) (ty := (.object "gatherwick/maps/RedBlackTree$Node")) (by decide) rfl rfl (g := (mkF m 10 #[.val (.ref ar), .val (.ref nn), .val (.ref x1)] [.null, (.ref nn)])) rfl rfl (hb hby d33_10)
  refine Go.step st229 ?_
  have Fw229 := n_right.same W229
  have N229 := Fr.snoc X229 N0 g_nn
  have Z229 : n0 ≤ h229.size := Nat.le_trans Z0 (Keep.of_wr W229).1
  have KK229 := (Keep.refl h0 [nn, x1, g1]).wr W229 (Or.inl (List.mem_of_getElem? (i := 0) rfl))
  show Go _ _ _ _ _ _ _ T229 (mkF m 13 #[.val (.ref ar), .val (.ref nn), .val (.ref x1)] [])
  refine Go.step (fun _ k => XS.aloadN X229.here hx rfl (hb hby d33_13) rfl rfl k) ?_
  have f230 := (x_left.other W229 (Or.inl (Ne.symm ne1)))
  obtain ⟨T231, X231, e231, st231⟩ := getF X229 hx hZ hown (host := "") (Or.inl (own_w hw 180 rfl)) Via.refl e229 f230 (g := (mkF m 14 #[.val (.ref ar), .val (.ref nn), .val (.ref x1)] [(.ref x1)])) rfl rfl (hb hby d33_14)
  refine Go.step st231 ?_
  show Go _ _ _ _ _ _ _ T231 (mkF m 17 #[.val (.ref ar), .val (.ref nn), .val (.ref x1)] [.null])
  refine Go.step (fun _ k => XS.ifnullYes X231.here hx rfl (pc0 := 17) (pc' := 28) rfl (hb hby d33_17) rfl (by decide) (by decide) k) ?_
  show Go _ _ _ _ _ _ _ T231 (mkF m 28 #[.val (.ref ar), .val (.ref nn), .val (.ref x1)] [])
  refine Go.step (fun _ k => XS.aloadN X231.here hx rfl (hb hby d33_28) rfl rfl k) ?_
  refine Go.step (fun _ k => XS.aloadN X231.here hx rfl (hb hby d33_29) rfl rfl k) ?_
  refine Go.step (fun _ k => XS.aloadN X231.here hx rfl (hb hby d33_30) rfl rfl k) ?_
  have f233 := (E_g1.wr W229)
  have f234 := (E_x1.wr W229)
  have f235 := (n_parent.other W229 (Or.inr (slot_ne (a0 := a0) (C := "gatherwick/maps/RedBlackTree$Node") (Or.inl (own_w hw 139 rfl)) (Or.inl (own_w hw 176 rfl)) (by decide) (t := (.object "gatherwick/maps/RedBlackTree$Node")) (t' := (.object "gatherwick/maps/RedBlackTree$Node")) (by decide) (by decide))))
  have f236 := (g_left.other W229 (Or.inl ne2))
  have f237 := (g_right.other W229 (Or.inl ne2))
  have f238 := (g_parent.other W229 (Or.inl ne2))
  have f239 := (g_red.other W229 (Or.inl ne2))
  have f240 := (x_right.other W229 (Or.inl (Ne.symm ne1)))
  have f241 := (x_parent.other W229 (Or.inl (Ne.symm ne1)))
  have f242 := (x_red.other W229 (Or.inl (Ne.symm ne1)))
  obtain ⟨_, _, ⟨T232, L232, k232, n232⟩, -, X232, ⟨Lc232, hQ232, l232, y232, z232⟩, st232⟩ := Jvm.LawKit.callS X231 hx (y := (⟨"gatherwick/maps/RedBlackTree", "replace", "(Lgatherwick/maps/RedBlackTree$Node;Lgatherwick/maps/RedBlackTree$Node;Lgatherwick/maps/RedBlackTree$Node;)Lgatherwick/maps/RedBlackTree$Node;"⟩ : MethodName)) hown (mvT hZ (own_w hw 184 rfl)) (mvT hZ (own_w hw 185 rfl)) (mvT hZ (own_w hw 144 rfl)) (mvT hZ (own_w hw 186 rfl)) (by decide) (backOf (W := 0) (rmRl l Z a0 hw [] ar nn x1 g1 vgo vgp rg vp1 .null vs1 rx h229 n0 Z229 f233 g_g1 f234 g_x1 ne3 ne2 f235 f236 f237 f238 f239 f230 f240 f241 f242) hZ (own_w hw 186 rfl) (own_w hw 144 rfl) (by decide) (by decide)) (g := (mkF m 31 #[.val (.ref ar), .val (.ref nn), .val (.ref x1)] [(.ref x1), (.ref nn), (.ref ar)])) rfl (by rw [hml]; rfl) (argsL := [(.ref ar), (.ref nn), (.ref x1)]) (rest := []) (lenOf pd__Lgatherwick_maps_RedBlackTree_Node_Lgatherwick_maps_RedBlackTree_Node_Lgatherwick_maps_RedBlackTree_Node__Lgatherwick_maps_RedBlackTree_Node_ rfl) rfl (by show 2 * 0 + _ ≤ _; exact Nat.le_of_eq rfl) (hb hby d33_31) (fun _ _ => ⟨rfl, e231, (by decide : 0 + 0 ≤ _), (by decide : 0 + 0 ≤ _)⟩)
  dsimp only [Pt.U, Pt.locs, Pt.cells, Pt.slots] at X232 l232 y232 z232 st232 hQ232
  subst l232 y232 z232
  obtain ⟨h232, e232⟩ : ∃ h, T232.heap = h := ⟨_, rfl⟩
  rw [e232] at hQ232
  obtain ⟨rfl, Nq232, Kq232, h_left_232, h_right_232, h_parent_232, h_red_232, y_left_232, y_right_232, y_parent_232, y_red_232⟩ := hQ232
  have N232 := Fr.app N229 Nq232
  have Z232 : n0 ≤ h232.size := Nat.le_trans Z229 Kq232.1
  have KK232 := KK229.trans Kq232 (allS (Or.inl (List.mem_of_getElem? (i := 2) rfl)) (allS (Or.inl (List.mem_of_getElem? (i := 1) rfl)) all0))
  refine Go.step st232 ?_
  show Go _ _ _ _ _ _ _ T232 (mkF m 34 #[.val (.ref ar), .val (.ref nn), .val (.ref x1)] [(.ref ar)])
  refine Go.step (fun _ k => XS.astoreN X232.here hx rfl (hb hby d33_34) rfl rfl (l' := #[.val (.ref ar), .val (.ref nn), .val (.ref x1)]) rfl k) ?_
  show Go _ _ _ _ _ _ _ T232 (mkF m 35 #[.val (.ref ar), .val (.ref nn), .val (.ref x1)] [])
  refine Go.step (fun _ k => XS.aloadN X232.here hx rfl (hb hby d33_35) rfl rfl k) ?_
  refine Go.step (fun _ k => XS.aloadN X232.here hx rfl (hb hby d33_36) rfl rfl k) ?_
  have f243 := (f234.keep Kq232)
  obtain ⟨T244, h244, X244, e244, W244, st244⟩ := putF X232 hx hZ hown (host := "") (Or.inl (own_w hw 180 rfl)) Via.refl e232 y_left_232 f243 (Or.inl (own_w hw 179 rfl)) (own_w hw 119 rfl) (ty := (.object "gatherwick/maps/RedBlackTree$Node")) (by decide) rfl rfl (g := (mkF m 37 #[.val (.ref ar), .val (.ref nn), .val (.ref x1)] [(.ref nn), (.ref x1)])) rfl rfl (hb hby d33_37)
  refine Go.step st244 ?_
  have Fw244 := y_left_232.same W244
  have N244 := Fr.snoc X244 N232 g_x1
  have Z244 : n0 ≤ h244.size := Nat.le_trans Z232 (Keep.of_wr W244).1
  have KK244 := KK232.wr W244 (Or.inl (List.mem_of_getElem? (i := 1) rfl))
  show Go _ _ _ _ _ _ _ T244 (mkF m 40 #[.val (.ref ar), .val (.ref nn), .val (.ref x1)] [])
  refine Go.step (fun _ k => XS.aloadN X244.here hx rfl (hb hby d33_40) rfl rfl k) ?_
  refine Go.step (fun _ k => XS.aloadN X244.here hx rfl (hb hby d33_41) rfl rfl k) ?_
  have f245 := ((f235.keep Kq232 (ninS (Ne.symm ne2) (ninS ne1 nin0))).other W244 (Or.inl ne1))
  have f246 := (((E_nn.wr W229).keep Kq232).wr W244)
  obtain ⟨T247, h247, X247, e247, W247, st247⟩ := putF X244 hx hZ hown (host := "") (Or.inl (own_w hw 146 rfl)) Via.refl e244 f245 f246 (Or.inl (own_w hw 139 rfl)) (own_w hw 119 rfl) (ty := (.object "gatherwick/maps/RedBlackTree$Node")) (by decide) rfl rfl (g := (mkF m 42 #[.val (.ref ar), .val (.ref nn), .val (.ref x1)] [(.ref x1), (.ref nn)])) rfl rfl (hb hby d33_42)
  refine Go.step st247 ?_
  have Fw247 := f245.same W247
  have N247 := Fr.snoc X247 N244 g_nn
  have Z247 : n0 ≤ h247.size := Nat.le_trans Z244 (Keep.of_wr W247).1
  have KK247 := KK244.wr W247 (Or.inl (List.mem_of_getElem? (i := 0) rfl))
  show Go _ _ _ _ _ _ _ T247 (mkF m 45 #[.val (.ref ar), .val (.ref nn), .val (.ref x1)] [])
  refine Go.step (fun _ k => XS.aloadN X247.here hx rfl (hb hby d33_45) rfl rfl k) ?_
  have f248 := (((Fw229.keep Kq232 (ninS (Ne.symm ne2) (ninS ne1 nin0))).other W244 (Or.inl ne1)).other W247 (Or.inr (slot_ne (a0 := a0) (C := "gatherwick/maps/RedBlackTree$Node") (Or.inl (own_w hw 176 rfl)) (Or.inl (own_w hw 139 rfl)) (by decide) (t := (.object "gatherwick/maps/RedBlackTree$Node")) (t' := (.object "gatherwick/maps/RedBlackTree$Node")) (by decide) (by decide))))
  have f249 := ((y_right_232.other W244 (Or.inr (slot_ne (a0 := a0) (C := "gatherwick/maps/RedBlackTree$Node") (Or.inl (own_w hw 176 rfl)) (Or.inl (own_w hw 179 rfl)) (by decide) (t := (.object "gatherwick/maps/RedBlackTree$Node")) (t' := (.object "gatherwick/maps/RedBlackTree$Node")) (by decide) (by decide)))).other W247 (Or.inl (Ne.symm ne1)))
  have f250 := (Fw244.other W247 (Or.inl (Ne.symm ne1)))
  have f251 := ((y_parent_232.other W244 (Or.inr (slot_ne (a0 := a0) (C := "gatherwick/maps/RedBlackTree$Node") (Or.inl (own_w hw 139 rfl)) (Or.inl (own_w hw 179 rfl)) (by decide) (t := (.object "gatherwick/maps/RedBlackTree$Node")) (t' := (.object "gatherwick/maps/RedBlackTree$Node")) (by decide) (by decide)))).other W247 (Or.inl (Ne.symm ne1)))
  have f252 := ((y_red_232.other W244 (Or.inr (slot_ne (a0 := a0) (C := "gatherwick/maps/RedBlackTree$Node") (Or.inl (own_w hw 133 rfl)) (Or.inl (own_w hw 179 rfl)) (by decide) (t := .boolean) (t' := (.object "gatherwick/maps/RedBlackTree$Node")) (by decide) (by decide)))).other W247 (Or.inl (Ne.symm ne1)))
  have f253 := ((h_left_232.other W244 (Or.inl ne3)).other W247 (Or.inl ne2))
  have f254 := ((h_right_232.other W244 (Or.inl ne3)).other W247 (Or.inl ne2))
  have f255 := ((h_parent_232.other W244 (Or.inl ne3)).other W247 (Or.inl ne2))
  have f256 := ((h_red_232.other W244 (Or.inl ne3)).other W247 (Or.inl ne2))
  exact Go.retA X247 hx hret hlk rfl rfl (hb hby d33_46) e247 (by decide) (by decide) ⟨rfl, N247, KK247, f248, Fw247, f249, f250, f251, f252, f253, f254, f255, f256⟩
theorem d26_0 : decode prog_57_method_3_code 0 = .ok (.aload_n 1, 1) := by decide +kernel
theorem d26_1 : decode prog_57_method_3_code 1 = .ok (.getfield 7, 3) := by decide +kernel
theorem d26_4 : decode prog_57_method_3_code 4 = .ok (.invokestatic 25, 3) := by decide +kernel
theorem d26_7 : decode prog_57_method_3_code 7 = .ok (.ifCond .eq 171, 3) := by decide +kernel
theorem d26_10 : decode prog_57_method_3_code 10 = .ok (.aload_n 1, 1) := by decide +kernel
theorem d26_11 : decode prog_57_method_3_code 11 = .ok (.getfield 7, 3) := by decide +kernel
theorem d26_14 : decode prog_57_method_3_code 14 = .ok (.astore_n 2, 1) := by decide +kernel
theorem d26_15 : decode prog_57_method_3_code 15 = .ok (.aload_n 2, 1) := by decide +kernel
theorem d26_16 : decode prog_57_method_3_code 16 = .ok (.getfield 7, 3) := by decide +kernel
theorem d26_19 : decode prog_57_method_3_code 19 = .ok (.astore_n 3, 1) := by decide +kernel
theorem d26_20 : decode prog_57_method_3_code 20 = .ok (.aload_n 2, 1) := by decide +kernel
theorem d26_21 : decode prog_57_method_3_code 21 = .ok (.aload_n 3, 1) := by decide +kernel
theorem d26_22 : decode prog_57_method_3_code 22 = .ok (.getfield 13, 3) := by decide +kernel
theorem d26_25 : decode prog_57_method_3_code 25 = .ok (.if_acmp .ne 78, 3) := by decide +kernel
theorem d26_28 : decode prog_57_method_3_code 28 = .ok (.aload_n 3, 1) := by decide +kernel
theorem d26_29 : decode prog_57_method_3_code 29 = .ok (.getfield 16, 3) := by decide +kernel
theorem d26_32 : decode prog_57_method_3_code 32 = .ok (.astore 4, 2) := by decide +kernel
theorem d26_34 : decode prog_57_method_3_code 34 = .ok (.aload 4, 2) := by decide +kernel
theorem d26_36 : decode prog_57_method_3_code 36 = .ok (.invokestatic 25, 3) := by decide +kernel
theorem d26_39 : decode prog_57_method_3_code 39 = .ok (.ifCond .eq 24, 3) := by decide +kernel
theorem d26_63 : decode prog_57_method_3_code 63 = .ok (.aload_n 1, 1) := by decide +kernel
theorem d26_64 : decode prog_57_method_3_code 64 = .ok (.aload_n 2, 1) := by decide +kernel
theorem d26_65 : decode prog_57_method_3_code 65 = .ok (.getfield 16, 3) := by decide +kernel
theorem d26_68 : decode prog_57_method_3_code 68 = .ok (.if_acmp .ne 16, 3) := by decide +kernel
theorem d26_71 : decode prog_57_method_3_code 71 = .ok (.aload_n 2, 1) := by decide +kernel
theorem d26_72 : decode prog_57_method_3_code 72 = .ok (.astore_n 1, 1) := by decide +kernel
theorem d26_73 : decode prog_57_method_3_code 73 = .ok (.aload_n 0, 1) := by decide +kernel
theorem d26_74 : decode prog_57_method_3_code 74 = .ok (.aload_n 1, 1) := by decide +kernel
theorem d26_75 : decode prog_57_method_3_code 75 = .ok (.invokestatic 33, 3) := by decide +kernel
theorem d26_78 : decode prog_57_method_3_code 78 = .ok (.astore_n 0, 1) := by decide +kernel
theorem d26_79 : decode prog_57_method_3_code 79 = .ok (.aload_n 1, 1) := by decide +kernel
theorem d26_80 : decode prog_57_method_3_code 80 = .ok (.getfield 7, 3) := by decide +kernel
theorem d26_83 : decode prog_57_method_3_code 83 = .ok (.astore_n 2, 1) := by decide +kernel
theorem d26_84 : decode prog_57_method_3_code 84 = .ok (.aload_n 2, 1) := by decide +kernel
theorem d26_85 : decode prog_57_method_3_code 85 = .ok (.iconst 0, 1) := by decide +kernel
theorem d26_86 : decode prog_57_method_3_code 86 = .ok (.putfield 29, 3) := by decide +kernel
theorem d26_89 : decode prog_57_method_3_code 89 = .ok (.aload_n 3, 1) := by decide +kernel
theorem d26_90 : decode prog_57_method_3_code 90 = .ok (.iconst 1, 1) := by decide +kernel
theorem d26_91 : decode prog_57_method_3_code 91 = .ok (.putfield 29, 3) := by decide +kernel
theorem d26_94 : decode prog_57_method_3_code 94 = .ok (.aload_n 0, 1) := by decide +kernel
theorem d26_95 : decode prog_57_method_3_code 95 = .ok (.aload_n 3, 1) := by decide +kernel
theorem d26_96 : decode prog_57_method_3_code 96 = .ok (.invokestatic 36, 3) := by decide +kernel
theorem d26_99 : decode prog_57_method_3_code 99 = .ok (.astore_n 0, 1) := by decide +kernel
theorem d26_100 : decode prog_57_method_3_code 100 = .ok (.goto 75, 3) := by decide +kernel
theorem d26_103 : decode prog_57_method_3_code 103 = .ok (.aload_n 3, 1) := by decide +kernel
theorem d26_104 : decode prog_57_method_3_code 104 = .ok (.getfield 13, 3) := by decide +kernel
theorem d26_107 : decode prog_57_method_3_code 107 = .ok (.astore 4, 2) := by decide +kernel
theorem d26_109 : decode prog_57_method_3_code 109 = .ok (.aload 4, 2) := by decide +kernel
theorem d26_111 : decode prog_57_method_3_code 111 = .ok (.invokestatic 25, 3) := by decide +kernel
theorem d26_114 : decode prog_57_method_3_code 114 = .ok (.ifCond .eq 24, 3) := by decide +kernel
theorem d26_138 : decode prog_57_method_3_code 138 = .ok (.aload_n 1, 1) := by decide +kernel
theorem d26_139 : decode prog_57_method_3_code 139 = .ok (.aload_n 2, 1) := by decide +kernel
theorem d26_140 : decode prog_57_method_3_code 140 = .ok (.getfield 13, 3) := by decide +kernel
theorem d26_143 : decode prog_57_method_3_code 143 = .ok (.if_acmp .ne 16, 3) := by decide +kernel
theorem d26_146 : decode prog_57_method_3_code 146 = .ok (.aload_n 2, 1) := by decide +kernel
theorem d26_147 : decode prog_57_method_3_code 147 = .ok (.astore_n 1, 1) := by decide +kernel
theorem d26_148 : decode prog_57_method_3_code 148 = .ok (.aload_n 0, 1) := by decide +kernel
theorem d26_149 : decode prog_57_method_3_code 149 = .ok (.aload_n 1, 1) := by decide +kernel
theorem d26_150 : decode prog_57_method_3_code 150 = .ok (.invokestatic 36, 3) := by decide +kernel
theorem d26_153 : decode prog_57_method_3_code 153 = .ok (.astore_n 0, 1) := by decide +kernel
theorem d26_154 : decode prog_57_method_3_code 154 = .ok (.aload_n 1, 1) := by decide +kernel
theorem d26_155 : decode prog_57_method_3_code 155 = .ok (.getfield 7, 3) := by decide +kernel
theorem d26_158 : decode prog_57_method_3_code 158 = .ok (.astore_n 2, 1) := by decide +kernel
theorem d26_159 : decode prog_57_method_3_code 159 = .ok (.aload_n 2, 1) := by decide +kernel
theorem d26_160 : decode prog_57_method_3_code 160 = .ok (.iconst 0, 1) := by decide +kernel
theorem d26_161 : decode prog_57_method_3_code 161 = .ok (.putfield 29, 3) := by decide +kernel
theorem d26_164 : decode prog_57_method_3_code 164 = .ok (.aload_n 3, 1) := by decide +kernel
theorem d26_165 : decode prog_57_method_3_code 165 = .ok (.iconst 1, 1) := by decide +kernel
theorem d26_166 : decode prog_57_method_3_code 166 = .ok (.putfield 29, 3) := by decide +kernel
theorem d26_169 : decode prog_57_method_3_code 169 = .ok (.aload_n 0, 1) := by decide +kernel
theorem d26_170 : decode prog_57_method_3_code 170 = .ok (.aload_n 3, 1) := by decide +kernel
theorem d26_171 : decode prog_57_method_3_code 171 = .ok (.invokestatic 33, 3) := by decide +kernel
theorem d26_174 : decode prog_57_method_3_code 174 = .ok (.astore_n 0, 1) := by decide +kernel
theorem d26_175 : decode prog_57_method_3_code 175 = .ok (.goto (-175), 3) := by decide +kernel
theorem d26_178 : decode prog_57_method_3_code 178 = .ok (.aload_n 0, 1) := by decide +kernel
theorem d26_179 : decode prog_57_method_3_code 179 = .ok (.iconst 0, 1) := by decide +kernel
theorem d26_180 : decode prog_57_method_3_code 180 = .ok (.putfield 29, 3) := by decide +kernel
theorem d26_183 : decode prog_57_method_3_code 183 = .ok (.aload_n 0, 1) := by decide +kernel
theorem d26_184 : decode prog_57_method_3_code 184 = .ok (.areturn, 1) := by decide +kernel
theorem pd__Lgatherwick_maps_RedBlackTree_Node__Z : parseMethodDescriptor "(Lgatherwick/maps/RedBlackTree$Node;)Z" = some ⟨[(.object "gatherwick/maps/RedBlackTree$Node")], some .boolean⟩ := by decide +kernel
theorem pd__Lgatherwick_maps_RedBlackTree_Node_Lgatherwick_maps_RedBlackTree_Node__Lgatherwick_maps_RedBlackTree_Node_ : parseMethodDescriptor "(Lgatherwick/maps/RedBlackTree$Node;Lgatherwick/maps/RedBlackTree$Node;)Lgatherwick/maps/RedBlackTree$Node;" = some ⟨[(.object "gatherwick/maps/RedBlackTree$Node"), (.object "gatherwick/maps/RedBlackTree$Node")], some (.object "gatherwick/maps/RedBlackTree$Node")⟩ := by decide +kernel
theorem ef_rmBz (m : MethodId) (ar : Addr) (an : Addr) : entryFrame m #[(.ref ar), (.ref an)] 5 = mkF m 0 #[.val (.ref ar), .val (.ref an), .unset, .unset, .unset] [] := by first | (simp [entryFrame, mkF, argsToLocals, Value.category]; done) | rfl
def Q_rmBz (Z : State) (ar : Addr) (an : Addr) (xk : Addr) (xv : Addr) (h0 : Heap) (n0 : Nat) (v : Option Value) (h : Heap) (L : List Loc) : Prop := (v = some (.ref ar)) ∧ (Fr n0 L) ∧ (Keep h0 h [ar]) ∧ (Fld Z h ar "gatherwick/maps/RedBlackTree$Node" "key" "Ljava/lang/Object;" (.ref xk)) ∧ (Fld Z h ar "gatherwick/maps/RedBlackTree$Node" "value" "Ljava/lang/Object;" (.ref xv)) ∧ (Fld Z h ar "gatherwick/maps/RedBlackTree$Node" "left" "Lgatherwick/maps/RedBlackTree$Node;" .null) ∧ (Fld Z h ar "gatherwick/maps/RedBlackTree$Node" "right" "Lgatherwick/maps/RedBlackTree$Node;" .null) ∧ (Fld Z h ar "gatherwick/maps/RedBlackTree$Node" "parent" "Lgatherwick/maps/RedBlackTree$Node;" .null) ∧ (Fld Z h ar "gatherwick/maps/RedBlackTree$Node" "red" "Z" (.int (0 : Int32)))
theorem rmBz (l : Launch) (Z : State) (a0 : Array Value) (hw : ∀ d ∈ tables_1, d.before a0 Z = true) (ws : List Jvm.Cond) (ar : Addr) (an : Addr) (xk : Addr) (xv : Addr) (h0 : Heap) (n0 : Nat) (Z0 : n0 ≤ h0.size) (E_ar : Exa Z h0 ar "gatherwick/maps/RedBlackTree$Node") (g_ar : n0 ≤ ar) (a_key : Fld Z h0 ar "gatherwick/maps/RedBlackTree$Node" "key" "Ljava/lang/Object;" (.ref xk)) (a_value : Fld Z h0 ar "gatherwick/maps/RedBlackTree$Node" "value" "Ljava/lang/Object;" (.ref xv)) (a_left : Fld Z h0 ar "gatherwick/maps/RedBlackTree$Node" "left" "Lgatherwick/maps/RedBlackTree$Node;" .null) (a_right : Fld Z h0 ar "gatherwick/maps/RedBlackTree$Node" "right" "Lgatherwick/maps/RedBlackTree$Node;" .null) (a_parent : Fld Z h0 ar "gatherwick/maps/RedBlackTree$Node" "parent" "Lgatherwick/maps/RedBlackTree$Node;" .null) (a_red : Fld Z h0 ar "gatherwick/maps/RedBlackTree$Node" "red" "Z" (.int (1 : Int32))) (c_parent : Fld Z h0 an "gatherwick/maps/RedBlackTree$Node" "parent" "Lgatherwick/maps/RedBlackTree$Node;" .null) :
    MetFree l (⟨"gatherwick/maps/RedBlackTree", "rebalanceAfterLink", "(Lgatherwick/maps/RedBlackTree$Node;Lgatherwick/maps/RedBlackTree$Node;)Lgatherwick/maps/RedBlackTree$Node;"⟩ : MethodName) (head1 (Jvm.Cond.code (⟨"gatherwick/maps/RedBlackTree", "rebalanceAfterLink", "(Lgatherwick/maps/RedBlackTree$Node;Lgatherwick/maps/RedBlackTree$Node;)Lgatherwick/maps/RedBlackTree$Node;"⟩ : MethodName) prog_57_method_3_code 5 (some (.object "gatherwick/maps/RedBlackTree$Node")) :: ws) ({ frames := 1, cells := 0, slots := 0, locals := 12 } : Room)) (fun aA U => aA = #[(.ref ar), (.ref an)] ∧ Z.Warmed39 U.vm ∧ U.heap = h0) (fun _ _ _ _ _ => True) (fun _ U o U' => ∃ v L, o = .returned v ∧ Q_rmBz Z ar an xk xv h0 n0 v U'.heap L ∧ FrameEnd U o U' L ({ frames := 1, cells := 0, slots := 0, locals := 12 } : Room).cells ({ frames := 1, cells := 0, slots := 0, locals := 12 } : Room).slots) := by
  refine MetFree.of_bodySF (plainFor_of_name pn_gatherwick_maps_RedBlackTree) hisR ?_
  intro p e s m args below meth c s₁ Bd hml0 hP hK
  obtain ⟨rfl, hZ, hh⟩ := hP
  have hx := Bd.exec
  have hby := Bd.bytes
  have hml : c.maxLocals = 5 := hml0
  have hown : s.vm.findClass "gatherwick/maps/RedBlackTree" = some m.cls := findClass_of_methodNamed Bd.named
  have hnm := (name_of_methodNamed Bd.named Bd.method).1
  have hret := Bd.returns
  have hlk : meth.locks = false := BodyLoose.notSynchronized Bd
  have X0 : Stand p l e ({ frames := 1, cells := 0, slots := 0, locals := 12 } : Room) s m #[(.ref ar), (.ref an)] below meth c s₁ [] 0 0 := Stand.of_body Bd
  have e0 : s₁.heap = h0 := by rw [← hh, Bd.state]; rfl
  have N0 := Fr.nil n0
  suffices hgo : Go p e below s ({ frames := 1, cells := 0, slots := 0, locals := 12 } : Room).cells ({ frames := 1, cells := 0, slots := 0, locals := 12 } : Room).slots (Q_rmBz Z ar an xk xv h0 n0) s₁ (mkF m 0 #[.val (.ref ar), .val (.ref an), .unset, .unset, .unset] []) from hgo.enter (ef_rmBz m ar an)
  refine Go.step (fun _ k => XS.aloadN X0.here hx rfl (hb hby d26_0) rfl rfl k) ?_
  obtain ⟨T257, X257, e257, st257⟩ := getF X0 hx hZ hown (host := "") (Or.inl (own_w hw 146 rfl)) Via.refl e0 c_parent (g := (mkF m 1 #[.val (.ref ar), .val (.ref an), .unset, .unset, .unset] [(.ref an)])) rfl rfl (hb hby d26_1)
  refine Go.step st257 ?_
  show Go _ _ _ _ _ _ _ T257 (mkF m 4 #[.val (.ref ar), .val (.ref an), .unset, .unset, .unset] [.null])
  obtain ⟨_, _, ⟨T258, L258, k258, n258⟩, -, X258, ⟨Lc258, hQ258, l258, y258, z258⟩, st258⟩ := Jvm.LawKit.callS X257 hx (y := (⟨"gatherwick/maps/RedBlackTree", "isRed", "(Lgatherwick/maps/RedBlackTree$Node;)Z"⟩ : MethodName)) hown (mvT hZ (own_w hw 150 rfl)) (mvT hZ (own_w hw 151 rfl)) (mvT hZ (own_w hw 144 rfl)) (mvT hZ (own_w hw 152 rfl)) (by decide) (backOf (W := 0) (rmRn l Z a0 hw []  h0 n0 Z0 ) hZ (own_w hw 152 rfl) (own_w hw 144 rfl) (by decide) (by decide)) (g := (mkF m 4 #[.val (.ref ar), .val (.ref an), .unset, .unset, .unset] [.null])) rfl (by rw [hml]; rfl) (argsL := [.null]) (rest := []) (lenOf pd__Lgatherwick_maps_RedBlackTree_Node__Z rfl) rfl (by show 2 * 0 + _ ≤ _; exact Nat.le_of_eq rfl) (hb hby d26_4) (fun _ _ => ⟨rfl, e257, (by decide : 0 + 0 ≤ _), (by decide : 0 + 0 ≤ _)⟩)
  dsimp only [Pt.U, Pt.locs, Pt.cells, Pt.slots] at X258 l258 y258 z258 st258 hQ258
  subst l258 y258 z258
  obtain ⟨h258, e258⟩ : ∃ h, T258.heap = h := ⟨_, rfl⟩
  rw [e258] at hQ258
  obtain ⟨rfl, Nq258, hs258⟩ := hQ258
  have N258 := Fr.app N0 Nq258
  rw [hs258] at e258
  refine Go.step st258 ?_
  show Go _ _ _ _ _ _ _ T258 (mkF m 7 #[.val (.ref ar), .val (.ref an), .unset, .unset, .unset] [(.int (0 : Int32))])
  have hc7_259 : (0 : Int32) = (0 : Int32) := (by decide)
  refine Go.step (fun _ k => XS.ifYes X258.here hx rfl (pc0 := 7) (pc' := 178) rfl (hb hby d26_7) rfl ((if0 _ _).trans (teq hc7_259).1) (by decide) (by decide) k) ?_
  show Go _ _ _ _ _ _ _ T258 (mkF m 178 #[.val (.ref ar), .val (.ref an), .unset, .unset, .unset] [])
  refine Go.step (fun _ k => XS.aloadN X258.here hx rfl (hb hby d26_178) rfl rfl k) ?_
  refine Go.step (fun _ k => XS.iconst X258.here hx rfl (hb hby d26_179) k) ?_
  obtain ⟨T260, h260, X260, e260, W260, st260⟩ := putFN X258 hx hZ hown (own_w hw 153 rfl) Via.refl e258 a_red E_ar (Or.inl (own_w hw 133 rfl)) (own_w hw 119 rfl) (ty := .boolean) (v' := (.int (0 : Int32))) (by decide) rfl rfl (g := (mkF m 180 #[.val (.ref ar), .val (.ref an), .unset, .unset, .unset] [(.int (0 : Int32)), (.ref ar)])) rfl rfl (hb hby d26_180)
  refine Go.step st260 ?_
  have Fw260 := a_red.same W260
  have N260 := Fr.snoc X260 N258 g_ar
  have Z260 : n0 ≤ h260.size := Nat.le_trans Z0 (Keep.of_wr W260).1
  have KK260 := (Keep.refl h0 [ar]).wr W260 (Or.inl (List.mem_of_getElem? (i := 0) rfl))
  show Go _ _ _ _ _ _ _ T260 (mkF m 183 #[.val (.ref ar), .val (.ref an), .unset, .unset, .unset] [])
  refine Go.step (fun _ k => XS.aloadN X260.here hx rfl (hb hby d26_183) rfl rfl k) ?_
  have f261 := (a_key.other W260 (Or.inr (slot_ne (a0 := a0) (C := "gatherwick/maps/RedBlackTree$Node") (Or.inr (own_w hw 135 rfl)) (Or.inl (own_w hw 133 rfl)) (by decide) (t := (.object "java/lang/Object")) (t' := .boolean) (by decide) (by decide))))
  have f262 := (a_value.other W260 (Or.inr (slot_ne (a0 := a0) (C := "gatherwick/maps/RedBlackTree$Node") (Or.inl (own_w hw 137 rfl)) (Or.inl (own_w hw 133 rfl)) (by decide) (t := (.object "java/lang/Object")) (t' := .boolean) (by decide) (by decide))))
  have f263 := (a_left.other W260 (Or.inr (slot_ne (a0 := a0) (C := "gatherwick/maps/RedBlackTree$Node") (Or.inl (own_w hw 179 rfl)) (Or.inl (own_w hw 133 rfl)) (by decide) (t := (.object "gatherwick/maps/RedBlackTree$Node")) (t' := .boolean) (by decide) (by decide))))
  have f264 := (a_right.other W260 (Or.inr (slot_ne (a0 := a0) (C := "gatherwick/maps/RedBlackTree$Node") (Or.inl (own_w hw 176 rfl)) (Or.inl (own_w hw 133 rfl)) (by decide) (t := (.object "gatherwick/maps/RedBlackTree$Node")) (t' := .boolean) (by decide) (by decide))))
  have f265 := (a_parent.other W260 (Or.inr (slot_ne (a0 := a0) (C := "gatherwick/maps/RedBlackTree$Node") (Or.inl (own_w hw 139 rfl)) (Or.inl (own_w hw 133 rfl)) (by decide) (t := (.object "gatherwick/maps/RedBlackTree$Node")) (t' := .boolean) (by decide) (by decide))))
  exact Go.retA X260 hx hret hlk rfl rfl (hb hby d26_184) e260 (by decide) (by decide) ⟨rfl, N260, KK260, f261, f262, f263, f264, f265, Fw260⟩
theorem d25_0 : decode prog_57_method_2_code 0 = .ok (.aload_n 1, 1) := by decide +kernel
theorem d25_1 : decode prog_57_method_2_code 1 = .ok (.getfield 7, 3) := by decide +kernel
theorem d25_4 : decode prog_57_method_2_code 4 = .ok (.astore_n 3, 1) := by decide +kernel
theorem d25_5 : decode prog_57_method_2_code 5 = .ok (.aload_n 3, 1) := by decide +kernel
theorem d25_6 : decode prog_57_method_2_code 6 = .ok (.ifnonnull 8, 3) := by decide +kernel
theorem d25_9 : decode prog_57_method_2_code 9 = .ok (.aload_n 1, 1) := by decide +kernel
theorem d25_10 : decode prog_57_method_2_code 10 = .ok (.astore_n 0, 1) := by decide +kernel
theorem d25_11 : decode prog_57_method_2_code 11 = .ok (.goto 20, 3) := by decide +kernel
theorem d25_14 : decode prog_57_method_2_code 14 = .ok (.iload_n 2, 1) := by decide +kernel
theorem d25_15 : decode prog_57_method_2_code 15 = .ok (.ifCond .eq 11, 3) := by decide +kernel
theorem d25_18 : decode prog_57_method_2_code 18 = .ok (.aload_n 3, 1) := by decide +kernel
theorem d25_19 : decode prog_57_method_2_code 19 = .ok (.aload_n 1, 1) := by decide +kernel
theorem d25_20 : decode prog_57_method_2_code 20 = .ok (.putfield 13, 3) := by decide +kernel
theorem d25_23 : decode prog_57_method_2_code 23 = .ok (.goto 8, 3) := by decide +kernel
theorem d25_26 : decode prog_57_method_2_code 26 = .ok (.aload_n 3, 1) := by decide +kernel
theorem d25_27 : decode prog_57_method_2_code 27 = .ok (.aload_n 1, 1) := by decide +kernel
theorem d25_28 : decode prog_57_method_2_code 28 = .ok (.putfield 16, 3) := by decide +kernel
theorem d25_31 : decode prog_57_method_2_code 31 = .ok (.aload_n 0, 1) := by decide +kernel
theorem d25_32 : decode prog_57_method_2_code 32 = .ok (.aload_n 1, 1) := by decide +kernel
theorem d25_33 : decode prog_57_method_2_code 33 = .ok (.invokestatic 19, 3) := by decide +kernel
theorem d25_36 : decode prog_57_method_2_code 36 = .ok (.areturn, 1) := by decide +kernel
theorem ef_rmKZ (m : MethodId) (an : Addr) : entryFrame m #[.null, (.ref an), (.int (0 : Int32))] 4 = mkF m 0 #[.val .null, .val (.ref an), .val (.int (0 : Int32)), .unset] [] := by first | (simp [entryFrame, mkF, argsToLocals, Value.category]; done) | rfl
def Q_rmKZ (Z : State) (an : Addr) (xk : Addr) (xv : Addr) (h0 : Heap) (n0 : Nat) (v : Option Value) (h : Heap) (L : List Loc) : Prop := (v = some (.ref an)) ∧ (Fr n0 L) ∧ (Keep h0 h [an]) ∧ (Fld Z h an "gatherwick/maps/RedBlackTree$Node" "key" "Ljava/lang/Object;" (.ref xk)) ∧ (Fld Z h an "gatherwick/maps/RedBlackTree$Node" "value" "Ljava/lang/Object;" (.ref xv)) ∧ (Fld Z h an "gatherwick/maps/RedBlackTree$Node" "left" "Lgatherwick/maps/RedBlackTree$Node;" .null) ∧ (Fld Z h an "gatherwick/maps/RedBlackTree$Node" "right" "Lgatherwick/maps/RedBlackTree$Node;" .null) ∧ (Fld Z h an "gatherwick/maps/RedBlackTree$Node" "parent" "Lgatherwick/maps/RedBlackTree$Node;" .null) ∧ (Fld Z h an "gatherwick/maps/RedBlackTree$Node" "red" "Z" (.int (0 : Int32)))
theorem rmKZ (l : Launch) (Z : State) (a0 : Array Value) (hw : ∀ d ∈ tables_1, d.before a0 Z = true) (ws : List Jvm.Cond) (an : Addr) (xk : Addr) (xv : Addr) (h0 : Heap) (n0 : Nat) (Z0 : n0 ≤ h0.size) (E_an : Exa Z h0 an "gatherwick/maps/RedBlackTree$Node") (g_an : n0 ≤ an) (a_key : Fld Z h0 an "gatherwick/maps/RedBlackTree$Node" "key" "Ljava/lang/Object;" (.ref xk)) (a_value : Fld Z h0 an "gatherwick/maps/RedBlackTree$Node" "value" "Ljava/lang/Object;" (.ref xv)) (a_left : Fld Z h0 an "gatherwick/maps/RedBlackTree$Node" "left" "Lgatherwick/maps/RedBlackTree$Node;" .null) (a_right : Fld Z h0 an "gatherwick/maps/RedBlackTree$Node" "right" "Lgatherwick/maps/RedBlackTree$Node;" .null) (a_parent : Fld Z h0 an "gatherwick/maps/RedBlackTree$Node" "parent" "Lgatherwick/maps/RedBlackTree$Node;" .null) (a_red : Fld Z h0 an "gatherwick/maps/RedBlackTree$Node" "red" "Z" (.int (1 : Int32))) :
    MetFree l (⟨"gatherwick/maps/RedBlackTree", "link", "(Lgatherwick/maps/RedBlackTree$Node;Lgatherwick/maps/RedBlackTree$Node;Z)Lgatherwick/maps/RedBlackTree$Node;"⟩ : MethodName) (head1 (Jvm.Cond.code (⟨"gatherwick/maps/RedBlackTree", "link", "(Lgatherwick/maps/RedBlackTree$Node;Lgatherwick/maps/RedBlackTree$Node;Z)Lgatherwick/maps/RedBlackTree$Node;"⟩ : MethodName) prog_57_method_2_code 4 (some (.object "gatherwick/maps/RedBlackTree$Node")) :: ws) ({ frames := 2, cells := 0, slots := 0, locals := 28 } : Room)) (fun aA U => aA = #[.null, (.ref an), (.int (0 : Int32))] ∧ Z.Warmed39 U.vm ∧ U.heap = h0) (fun _ _ _ _ _ => True) (fun _ U o U' => ∃ v L, o = .returned v ∧ Q_rmKZ Z an xk xv h0 n0 v U'.heap L ∧ FrameEnd U o U' L ({ frames := 2, cells := 0, slots := 0, locals := 28 } : Room).cells ({ frames := 2, cells := 0, slots := 0, locals := 28 } : Room).slots) := by
  refine MetFree.of_bodySF (plainFor_of_name pn_gatherwick_maps_RedBlackTree) hisR ?_
  intro p e s m args below meth c s₁ Bd hml0 hP hK
  obtain ⟨rfl, hZ, hh⟩ := hP
  have hx := Bd.exec
  have hby := Bd.bytes
  have hml : c.maxLocals = 4 := hml0
  have hown : s.vm.findClass "gatherwick/maps/RedBlackTree" = some m.cls := findClass_of_methodNamed Bd.named
  have hnm := (name_of_methodNamed Bd.named Bd.method).1
  have hret := Bd.returns
  have hlk : meth.locks = false := BodyLoose.notSynchronized Bd
  have X0 : Stand p l e ({ frames := 2, cells := 0, slots := 0, locals := 28 } : Room) s m #[.null, (.ref an), (.int (0 : Int32))] below meth c s₁ [] 0 0 := Stand.of_body Bd
  have e0 : s₁.heap = h0 := by rw [← hh, Bd.state]; rfl
  have N0 := Fr.nil n0
  suffices hgo : Go p e below s ({ frames := 2, cells := 0, slots := 0, locals := 28 } : Room).cells ({ frames := 2, cells := 0, slots := 0, locals := 28 } : Room).slots (Q_rmKZ Z an xk xv h0 n0) s₁ (mkF m 0 #[.val .null, .val (.ref an), .val (.int (0 : Int32)), .unset] []) from hgo.enter (ef_rmKZ m an)
  refine Go.step (fun _ k => XS.aloadN X0.here hx rfl (hb hby d25_0) rfl rfl k) ?_
  obtain ⟨T266, X266, e266, st266⟩ := getF X0 hx hZ hown (host := "") (Or.inl (own_w hw 146 rfl)) Via.refl e0 a_parent (g := (mkF m 1 #[.val .null, .val (.ref an), .val (.int (0 : Int32)), .unset] [(.ref an)])) rfl rfl (hb hby d25_1)
  refine Go.step st266 ?_
  show Go _ _ _ _ _ _ _ T266 (mkF m 4 #[.val .null, .val (.ref an), .val (.int (0 : Int32)), .unset] [.null])
  refine Go.step (fun _ k => XS.astoreN X266.here hx rfl (hb hby d25_4) rfl rfl (l' := #[.val .null, .val (.ref an), .val (.int (0 : Int32)), .val .null]) rfl k) ?_
  show Go _ _ _ _ _ _ _ T266 (mkF m 5 #[.val .null, .val (.ref an), .val (.int (0 : Int32)), .val .null] [])
  refine Go.step (fun _ k => XS.aloadN X266.here hx rfl (hb hby d25_5) rfl rfl k) ?_
  refine Go.step (fun _ k => XS.ifnonnullNo X266.here hx rfl (hb hby d25_6) rfl k) ?_
  show Go _ _ _ _ _ _ _ T266 (mkF m 9 #[.val .null, .val (.ref an), .val (.int (0 : Int32)), .val .null] [])
  refine Go.step (fun _ k => XS.aloadN X266.here hx rfl (hb hby d25_9) rfl rfl k) ?_
  refine Go.step (fun _ k => XS.astoreN X266.here hx rfl (hb hby d25_10) rfl rfl (l' := #[.val (.ref an), .val (.ref an), .val (.int (0 : Int32)), .val .null]) rfl k) ?_
  show Go _ _ _ _ _ _ _ T266 (mkF m 11 #[.val (.ref an), .val (.ref an), .val (.int (0 : Int32)), .val .null] [])
  refine Go.step (fun _ k => XS.goto X266.here hx rfl (pc0 := 11) (pc' := 31) rfl (hb hby d25_11) (by decide) (by decide) k) ?_
  show Go _ _ _ _ _ _ _ T266 (mkF m 31 #[.val (.ref an), .val (.ref an), .val (.int (0 : Int32)), .val .null] [])
  refine Go.step (fun _ k => XS.aloadN X266.here hx rfl (hb hby d25_31) rfl rfl k) ?_
  refine Go.step (fun _ k => XS.aloadN X266.here hx rfl (hb hby d25_32) rfl rfl k) ?_
  obtain ⟨_, _, ⟨T267, L267, k267, n267⟩, -, X267, ⟨Lc267, hQ267, l267, y267, z267⟩, st267⟩ := Jvm.LawKit.callS X266 hx (y := (⟨"gatherwick/maps/RedBlackTree", "rebalanceAfterLink", "(Lgatherwick/maps/RedBlackTree$Node;Lgatherwick/maps/RedBlackTree$Node;)Lgatherwick/maps/RedBlackTree$Node;"⟩ : MethodName)) hown (mvT hZ (own_w hw 147 rfl)) (mvT hZ (own_w hw 148 rfl)) (mvT hZ (own_w hw 144 rfl)) (mvT hZ (own_w hw 149 rfl)) (by decide) (backOf (W := 0) (rmBz l Z a0 hw [] an an xk xv h0 n0 Z0 E_an g_an a_key a_value a_left a_right a_parent a_red a_parent) hZ (own_w hw 149 rfl) (own_w hw 144 rfl) (by decide) (by decide)) (g := (mkF m 33 #[.val (.ref an), .val (.ref an), .val (.int (0 : Int32)), .val .null] [(.ref an), (.ref an)])) rfl (by rw [hml]; rfl) (argsL := [(.ref an), (.ref an)]) (rest := []) (lenOf pd__Lgatherwick_maps_RedBlackTree_Node_Lgatherwick_maps_RedBlackTree_Node__Lgatherwick_maps_RedBlackTree_Node_ rfl) rfl (by show 2 * 0 + _ ≤ _; exact Nat.le_of_eq rfl) (hb hby d25_33) (fun _ _ => ⟨rfl, e266, (by decide : 0 + 0 ≤ _), (by decide : 0 + 0 ≤ _)⟩)
  dsimp only [Pt.U, Pt.locs, Pt.cells, Pt.slots] at X267 l267 y267 z267 st267 hQ267
  subst l267 y267 z267
  obtain ⟨h267, e267⟩ : ∃ h, T267.heap = h := ⟨_, rfl⟩
  rw [e267] at hQ267
  obtain ⟨rfl, Nq267, Kq267, b_key_267, b_value_267, b_left_267, b_right_267, b_parent_267, b_red_267⟩ := hQ267
  have N267 := Fr.app N0 Nq267
  have Z267 : n0 ≤ h267.size := Nat.le_trans Z0 Kq267.1
  have KK267 := (Keep.refl h0 [an]).trans Kq267 (allS (Or.inl (List.mem_of_getElem? (i := 0) rfl)) all0)
  refine Go.step st267 ?_
  show Go _ _ _ _ _ _ _ T267 (mkF m 36 #[.val (.ref an), .val (.ref an), .val (.int (0 : Int32)), .val .null] [(.ref an)])
  exact Go.retA X267 hx hret hlk rfl rfl (hb hby d25_36) e267 (by decide) (by decide) ⟨rfl, N267, KK267, b_key_267, b_value_267, b_left_267, b_right_267, b_parent_267, b_red_267⟩
theorem d21_0 : decode prog_46_method_92_code 0 = .ok (.aload_n 0, 1) := by decide +kernel
theorem d21_1 : decode prog_46_method_92_code 1 = .ok (.getfield 105, 3) := by decide +kernel
theorem d21_4 : decode prog_46_method_92_code 4 = .ok (.invokestatic 79, 3) := by decide +kernel
theorem d21_7 : decode prog_46_method_92_code 7 = .ok (.aload_n 0, 1) := by decide +kernel
theorem d21_8 : decode prog_46_method_92_code 8 = .ok (.aload_n 0, 1) := by decide +kernel
theorem d21_9 : decode prog_46_method_92_code 9 = .ok (.getfield 112, 3) := by decide +kernel
theorem d21_12 : decode prog_46_method_92_code 12 = .ok (.new 96, 3) := by decide +kernel
theorem d21_15 : decode prog_46_method_92_code 15 = .ok (.dup, 1) := by decide +kernel
theorem d21_16 : decode prog_46_method_92_code 16 = .ok (.aload_n 2, 1) := by decide +kernel
theorem d21_17 : decode prog_46_method_92_code 17 = .ok (.aload_n 3, 1) := by decide +kernel
theorem d21_18 : decode prog_46_method_92_code 18 = .ok (.aload_n 1, 1) := by decide +kernel
theorem d21_19 : decode prog_46_method_92_code 19 = .ok (.getfield 455, 3) := by decide +kernel
theorem d21_22 : decode prog_46_method_92_code 22 = .ok (.invokespecial 471, 3) := by decide +kernel
theorem d21_25 : decode prog_46_method_92_code 25 = .ok (.aload_n 1, 1) := by decide +kernel
theorem d21_26 : decode prog_46_method_92_code 26 = .ok (.getfield 458, 3) := by decide +kernel
theorem d21_29 : decode prog_46_method_92_code 29 = .ok (.invokestatic 474, 3) := by decide +kernel
theorem d21_32 : decode prog_46_method_92_code 32 = .ok (.putfield 112, 3) := by decide +kernel
theorem d21_35 : decode prog_46_method_92_code 35 = .ok (.aload_n 0, 1) := by decide +kernel
theorem d21_36 : decode prog_46_method_92_code 36 = .ok (.dup, 1) := by decide +kernel
theorem d21_37 : decode prog_46_method_92_code 37 = .ok (.getfield 105, 3) := by decide +kernel
theorem d21_40 : decode prog_46_method_92_code 40 = .ok (.iconst 1, 1) := by decide +kernel
theorem d21_41 : decode prog_46_method_92_code 41 = .ok (.iadd, 1) := by decide +kernel
theorem d21_42 : decode prog_46_method_92_code 42 = .ok (.putfield 105, 3) := by decide +kernel
theorem d21_45 : decode prog_46_method_92_code 45 = .ok (.aload_n 0, 1) := by decide +kernel
theorem d21_46 : decode prog_46_method_92_code 46 = .ok (.dup, 1) := by decide +kernel
theorem d21_47 : decode prog_46_method_92_code 47 = .ok (.getfield 160, 3) := by decide +kernel
theorem d21_50 : decode prog_46_method_92_code 50 = .ok (.iconst 1, 1) := by decide +kernel
theorem d21_51 : decode prog_46_method_92_code 51 = .ok (.iadd, 1) := by decide +kernel
theorem d21_52 : decode prog_46_method_92_code 52 = .ok (.putfield 160, 3) := by decide +kernel
theorem d21_55 : decode prog_46_method_92_code 55 = .ok (.return_, 1) := by decide +kernel
theorem pd__Ljava_lang_Object_Ljava_lang_Object_Lgatherwick_maps_RedBlackTree_Node__V : parseMethodDescriptor "(Ljava/lang/Object;Ljava/lang/Object;Lgatherwick/maps/RedBlackTree$Node;)V" = some ⟨[(.object "java/lang/Object"), (.object "java/lang/Object"), (.object "gatherwick/maps/RedBlackTree$Node")], none⟩ := by decide +kernel
theorem pd__Lgatherwick_maps_RedBlackTree_Node_Lgatherwick_maps_RedBlackTree_Node_Z_Lgatherwick_maps_RedBlackTree_Node_ : parseMethodDescriptor "(Lgatherwick/maps/RedBlackTree$Node;Lgatherwick/maps/RedBlackTree$Node;Z)Lgatherwick/maps/RedBlackTree$Node;" = some ⟨[(.object "gatherwick/maps/RedBlackTree$Node"), (.object "gatherwick/maps/RedBlackTree$Node"), .boolean], some (.object "gatherwick/maps/RedBlackTree$Node")⟩ := by decide +kernel
theorem ef_rmMZ (m : MethodId) (am : Addr) (ap : Addr) (ak : Addr) (av : Addr) : entryFrame m #[(.ref am), (.ref ap), (.ref ak), (.ref av)] 4 = mkF m 0 #[.val (.ref am), .val (.ref ap), .val (.ref ak), .val (.ref av)] [] := by first | (simp [entryFrame, mkF, argsToLocals, Value.category]; done) | rfl
def Q_rmMZ (Z : State) (am : Addr) (ap : Addr) (ak : Addr) (av : Addr) (sz : Int32) (mc : Int32) (h0 : Heap) (n0 : Nat) (v : Option Value) (h : Heap) (L : List Loc) : Prop := ∃ an : Addr, (v = none) ∧ (Fr n0 L) ∧ (Keep h0 h [am]) ∧ (h0.size ≤ an) ∧ (Exa Z h an "gatherwick/maps/RedBlackTree$Node") ∧ (Fld Z h an "gatherwick/maps/RedBlackTree$Node" "key" "Ljava/lang/Object;" (.ref ak)) ∧ (Fld Z h an "gatherwick/maps/RedBlackTree$Node" "value" "Ljava/lang/Object;" (.ref av)) ∧ (Fld Z h an "gatherwick/maps/RedBlackTree$Node" "left" "Lgatherwick/maps/RedBlackTree$Node;" .null) ∧ (Fld Z h an "gatherwick/maps/RedBlackTree$Node" "right" "Lgatherwick/maps/RedBlackTree$Node;" .null) ∧ (Fld Z h an "gatherwick/maps/RedBlackTree$Node" "parent" "Lgatherwick/maps/RedBlackTree$Node;" .null) ∧ (Fld Z h an "gatherwick/maps/RedBlackTree$Node" "red" "Z" (.int (0 : Int32))) ∧ (Fld Z h am "gatherwick/maps/GwTreeMap" "comparator" "Ljava/util/Comparator;" .null) ∧ (Fld Z h am "gatherwick/maps/GwTreeMap" "root" "Lgatherwick/maps/RedBlackTree$Node;" (.ref an)) ∧ (Fld Z h am "gatherwick/maps/GwTreeMap" "size" "I" (.int (sz + (1 : Int32)))) ∧ (Fld Z h am "gatherwick/maps/GwTreeMap" "modCount" "I" (.int (mc + (1 : Int32))))
theorem rmMZ (l : Launch) (Z : State) (a0 : Array Value) (hw : ∀ d ∈ tables_1, d.before a0 Z = true) (ws : List Jvm.Cond) (am : Addr) (ap : Addr) (ak : Addr) (av : Addr) (sz : Int32) (mc : Int32) (h0 : Heap) (n0 : Nat) (Z0 : n0 ≤ h0.size) (Em : Exa Z h0 am "gatherwick/maps/GwTreeMap") (gm : n0 ≤ am) (m_comparator : Fld Z h0 am "gatherwick/maps/GwTreeMap" "comparator" "Ljava/util/Comparator;" .null) (m_root : Fld Z h0 am "gatherwick/maps/GwTreeMap" "root" "Lgatherwick/maps/RedBlackTree$Node;" .null) (m_size : Fld Z h0 am "gatherwick/maps/GwTreeMap" "size" "I" (.int sz)) (m_modCount : Fld Z h0 am "gatherwick/maps/GwTreeMap" "modCount" "I" (.int mc)) (Ep : Exa Z h0 ap "gatherwick/maps/GwTreeMap$Place") (P_p : Fld Z h0 ap "gatherwick/maps/GwTreeMap$Place" "parent" "Lgatherwick/maps/RedBlackTree$Node;" .null) (P_l : Fld Z h0 ap "gatherwick/maps/GwTreeMap$Place" "left" "Z" (.int (0 : Int32))) (hz : ¬ (sz = (2147483639 : Int32))) :
    MetFree l (⟨"gatherwick/maps/GwTreeMap", "link", "(Lgatherwick/maps/GwTreeMap$Place;Ljava/lang/Object;Ljava/lang/Object;)V"⟩ : MethodName) (head1 (Jvm.Cond.code (⟨"gatherwick/maps/GwTreeMap", "link", "(Lgatherwick/maps/GwTreeMap$Place;Ljava/lang/Object;Ljava/lang/Object;)V"⟩ : MethodName) prog_46_method_92_code 4 none :: ws) ({ frames := 3, cells := 1, slots := 6, locals := 44 } : Room)) (fun aA U => aA = #[(.ref am), (.ref ap), (.ref ak), (.ref av)] ∧ Z.Warmed39 U.vm ∧ U.heap = h0) (fun _ _ _ _ _ => True) (fun _ U o U' => ∃ v L, o = .returned v ∧ Q_rmMZ Z am ap ak av sz mc h0 n0 v U'.heap L ∧ FrameEnd U o U' L ({ frames := 3, cells := 1, slots := 6, locals := 44 } : Room).cells ({ frames := 3, cells := 1, slots := 6, locals := 44 } : Room).slots) := by
  refine MetFree.of_bodySF (plainFor_of_name pn_gatherwick_maps_GwTreeMap) hisR ?_
  intro p e s m args below meth c s₁ Bd hml0 hP hK
  obtain ⟨rfl, hZ, hh⟩ := hP
  have hx := Bd.exec
  have hby := Bd.bytes
  have hml : c.maxLocals = 4 := hml0
  have hown : s.vm.findClass "gatherwick/maps/GwTreeMap" = some m.cls := findClass_of_methodNamed Bd.named
  have hnm := (name_of_methodNamed Bd.named Bd.method).1
  have hret := Bd.returns
  have hlk : meth.locks = false := BodyLoose.notSynchronized Bd
  have X0 : Stand p l e ({ frames := 3, cells := 1, slots := 6, locals := 44 } : Room) s m #[(.ref am), (.ref ap), (.ref ak), (.ref av)] below meth c s₁ [] 0 0 := Stand.of_body Bd
  have e0 : s₁.heap = h0 := by rw [← hh, Bd.state]; rfl
  have N0 := Fr.nil n0
  suffices hgo : Go p e below s ({ frames := 3, cells := 1, slots := 6, locals := 44 } : Room).cells ({ frames := 3, cells := 1, slots := 6, locals := 44 } : Room).slots (Q_rmMZ Z am ap ak av sz mc h0 n0) s₁ (mkF m 0 #[.val (.ref am), .val (.ref ap), .val (.ref ak), .val (.ref av)] []) from hgo.enter (ef_rmMZ m am ap ak av)
  refine Go.step (fun _ k => XS.aloadN X0.here hx rfl (hb hby d21_0) rfl rfl k) ?_
  obtain ⟨T268, X268, e268, st268⟩ := getF X0 hx hZ hown (host := "") (Or.inl (own_w hw 21 rfl)) Via.refl e0 m_size (g := (mkF m 1 #[.val (.ref am), .val (.ref ap), .val (.ref ak), .val (.ref av)] [(.ref am)])) rfl rfl (hb hby d21_1)
  refine Go.step st268 ?_
  show Go _ _ _ _ _ _ _ T268 (mkF m 4 #[.val (.ref am), .val (.ref ap), .val (.ref ak), .val (.ref av)] [(.int sz)])
  obtain ⟨_, _, ⟨T269, L269, k269, n269⟩, -, X269, ⟨Lc269, hQ269, l269, y269, z269⟩, st269⟩ := Jvm.LawKit.callS X268 hx (y := (⟨"gatherwick/maps/GwTreeMap", "checkRoom", "(I)V"⟩ : MethodName)) hown (mvT hZ (own_w hw 114 rfl)) (mvT hZ (own_w hw 115 rfl)) (mvT hZ (own_w hw 2 rfl)) (mvT hZ (own_w hw 116 rfl)) (by decide) (backOf (W := 0) (rmCr l Z a0 hw [] sz h0 n0 Z0 hz) hZ (own_w hw 116 rfl) (own_w hw 2 rfl) (by decide) (by decide)) (g := (mkF m 4 #[.val (.ref am), .val (.ref ap), .val (.ref ak), .val (.ref av)] [(.int sz)])) rfl (by rw [hml]; rfl) (argsL := [(.int sz)]) (rest := []) (lenOf pd__I_V rfl) rfl (by show 2 * 0 + _ ≤ _; exact Nat.le_of_eq rfl) (hb hby d21_4) (fun _ _ => ⟨rfl, e268, (by decide : 0 + 0 ≤ _), (by decide : 0 + 0 ≤ _)⟩)
  dsimp only [Pt.U, Pt.locs, Pt.cells, Pt.slots] at X269 l269 y269 z269 st269 hQ269
  subst l269 y269 z269
  obtain ⟨h269, e269⟩ : ∃ h, T269.heap = h := ⟨_, rfl⟩
  rw [e269] at hQ269
  obtain ⟨rfl, Nq269, hs269⟩ := hQ269
  have N269 := Fr.app N0 Nq269
  rw [hs269] at e269
  refine Go.step st269 ?_
  show Go _ _ _ _ _ _ _ T269 (mkF m 7 #[.val (.ref am), .val (.ref ap), .val (.ref ak), .val (.ref av)] [])
  refine Go.step (fun _ k => XS.aloadN X269.here hx rfl (hb hby d21_7) rfl rfl k) ?_
  refine Go.step (fun _ k => XS.aloadN X269.here hx rfl (hb hby d21_8) rfl rfl k) ?_
  obtain ⟨T270, X270, e270, st270⟩ := getF X269 hx hZ hown (host := "") (Or.inl (own_w hw 52 rfl)) Via.refl e269 m_root (g := (mkF m 9 #[.val (.ref am), .val (.ref ap), .val (.ref ak), .val (.ref av)] [(.ref am), (.ref am)])) rfl rfl (hb hby d21_9)
  refine Go.step st270 ?_
  show Go _ _ _ _ _ _ _ T270 (mkF m 12 #[.val (.ref am), .val (.ref ap), .val (.ref ak), .val (.ref av)] [.null, (.ref am)])
  obtain ⟨T271, h271, X271, e271, E271, A271, D271, -, st271⟩ := newO X270 hx hZ hown (own_w hw 118 rfl) (own_w hw 119 rfl) (own_w hw 120 rfl) e270 (g := (mkF m 12 #[.val (.ref am), .val (.ref ap), .val (.ref ak), .val (.ref av)] [.null, (.ref am)])) rfl (hb hby d21_12) (by decide) (by decide)
  obtain ⟨b271, g271⟩ : ∃ z, z = h0.size := ⟨_, rfl⟩
  rw [← g271] at A271 D271 st271
  refine Go.step st271 ?_
  have g_b271 : n0 ≤ b271 := Nat.le_trans Z0 (Nat.le_of_eq g271.symm)
  have sz_b271 : h0.size ≤ b271 := Nat.le_trans (Keep.refl h0 [am]).1 (Nat.le_of_eq g271.symm)
  have ne_am_b271 : am ≠ b271 := Nat.ne_of_lt (Nat.lt_of_lt_of_le Em.lt (Nat.le_of_eq g271.symm))
  have ne_ap_b271 : ap ≠ b271 := Nat.ne_of_lt (Nat.lt_of_lt_of_le Ep.lt (Nat.le_of_eq g271.symm))
  have Z271 : n0 ≤ h271.size := Nat.le_trans Z0 E271.1
  have KK271 := (Keep.refl h0 [am]).ext E271
  have Fred_271 : Fld Z h271 b271 "gatherwick/maps/RedBlackTree$Node" "red" "Z" (.int (0 : Int32)) := D271 (Or.inl (own_w hw 133 rfl)) (ty := .boolean) (by decide)
  have Fkey_271 : Fld Z h271 b271 "gatherwick/maps/RedBlackTree$Node" "key" "Ljava/lang/Object;" .null := D271 (Or.inr (own_w hw 135 rfl)) (ty := (.object "java/lang/Object")) (by decide)
  have Fvalue_271 : Fld Z h271 b271 "gatherwick/maps/RedBlackTree$Node" "value" "Ljava/lang/Object;" .null := D271 (Or.inl (own_w hw 137 rfl)) (ty := (.object "java/lang/Object")) (by decide)
  have Fparent_271 : Fld Z h271 b271 "gatherwick/maps/RedBlackTree$Node" "parent" "Lgatherwick/maps/RedBlackTree$Node;" .null := D271 (Or.inl (own_w hw 139 rfl)) (ty := (.object "gatherwick/maps/RedBlackTree$Node")) (by decide)
  have Fright_271 : Fld Z h271 b271 "gatherwick/maps/RedBlackTree$Node" "right" "Lgatherwick/maps/RedBlackTree$Node;" .null := D271 (Or.inl (own_w hw 176 rfl)) (ty := (.object "gatherwick/maps/RedBlackTree$Node")) (by decide)
  have Fleft_271 : Fld Z h271 b271 "gatherwick/maps/RedBlackTree$Node" "left" "Lgatherwick/maps/RedBlackTree$Node;" .null := D271 (Or.inl (own_w hw 179 rfl)) (ty := (.object "gatherwick/maps/RedBlackTree$Node")) (by decide)
  show Go _ _ _ _ _ _ _ T271 (mkF m 15 #[.val (.ref am), .val (.ref ap), .val (.ref ak), .val (.ref av)] [(.ref b271), .null, (.ref am)])
  refine Go.step (fun _ k => XS.dup X271.here hx rfl (hb hby d21_15) rfl rfl k) ?_
  refine Go.step (fun _ k => XS.aloadN X271.here hx rfl (hb hby d21_16) rfl rfl k) ?_
  refine Go.step (fun _ k => XS.aloadN X271.here hx rfl (hb hby d21_17) rfl rfl k) ?_
  refine Go.step (fun _ k => XS.aloadN X271.here hx rfl (hb hby d21_18) rfl rfl k) ?_
  have f272 := (P_p.ext E271)
  obtain ⟨T273, X273, e273, st273⟩ := getF X271 hx hZ hown (host := "") (Or.inl (own_w hw 121 rfl)) Via.refl e271 f272 (g := (mkF m 19 #[.val (.ref am), .val (.ref ap), .val (.ref ak), .val (.ref av)] [(.ref ap), (.ref av), (.ref ak), (.ref b271), (.ref b271), .null, (.ref am)])) rfl rfl (hb hby d21_19)
  refine Go.step st273 ?_
  show Go _ _ _ _ _ _ _ T273 (mkF m 22 #[.val (.ref am), .val (.ref ap), .val (.ref ak), .val (.ref av)] [.null, (.ref av), (.ref ak), (.ref b271), (.ref b271), .null, (.ref am)])
  obtain ⟨_, _, ⟨T274, L274, k274, n274⟩, -, X274, ⟨Lc274, hQ274, l274, y274, z274⟩, st274⟩ := X273.specialBack hx (y := (⟨"gatherwick/maps/RedBlackTree$Node", "<init>", "(Ljava/lang/Object;Ljava/lang/Object;Lgatherwick/maps/RedBlackTree$Node;)V"⟩ : MethodName)) rfl hown (mvT hZ (own_w hw 123 rfl)) (mvT hZ (own_w hw 124 rfl)) (mvT hZ (own_w hw 125 rfl)) (by decide) (backOf (W := 3) (rmNi l Z a0 hw [] b271 ak av .null h271 n0 Z271 A271 g_b271 Fkey_271 Fvalue_271 Fleft_271 Fright_271 Fparent_271 Fred_271 rfl) hZ (own_w hw 125 rfl) (own_w hw 120 rfl) (by decide) (by decide)) (g := (mkF m 22 #[.val (.ref am), .val (.ref ap), .val (.ref ak), .val (.ref av)] [.null, (.ref av), (.ref ak), (.ref b271), (.ref b271), .null, (.ref am)])) rfl (by rw [hml]; rfl) (Steps.refl _) (a := b271) (argsL := [(.ref ak), (.ref av), .null]) (rest := [(.ref b271), .null, (.ref am)]) (lenOf pd__Ljava_lang_Object_Ljava_lang_Object_Lgatherwick_maps_RedBlackTree_Node__V rfl) rfl (by show 2 * 0 + _ ≤ _; exact Nat.le_of_eq rfl) (hb hby d21_22) (fun _ _ => ⟨rfl, e273, (by decide : 1 + 0 ≤ _), (by decide : 6 + 0 ≤ _)⟩)
  dsimp only [Pt.U, Pt.locs, Pt.cells, Pt.slots] at X274 l274 y274 z274 st274 hQ274
  subst l274 y274 z274
  obtain ⟨h274, e274⟩ : ∃ h, T274.heap = h := ⟨_, rfl⟩
  rw [e274] at hQ274
  obtain ⟨rfl, Nq274, Kq274, b_key_274, b_value_274, b_left_274, b_right_274, b_parent_274, b_red_274⟩ := hQ274
  have N274 := Fr.app N269 Nq274
  have Z274 : n0 ≤ h274.size := Nat.le_trans Z271 Kq274.1
  have KK274 := KK271.trans Kq274 (allS (Or.inr sz_b271) all0)
  refine Go.trans st274 ?_
  show Go _ _ _ _ _ _ _ T274 (mkF m 25 #[.val (.ref am), .val (.ref ap), .val (.ref ak), .val (.ref av)] [(.ref b271), .null, (.ref am)])
  refine Go.step (fun _ k => XS.aloadN X274.here hx rfl (hb hby d21_25) rfl rfl k) ?_
  have f275 := ((P_l.ext E271).keep Kq274 (ninS ne_ap_b271 nin0))
  obtain ⟨T276, X276, e276, st276⟩ := getF X274 hx hZ hown (host := "") (Or.inl (own_w hw 140 rfl)) Via.refl e274 f275 (g := (mkF m 26 #[.val (.ref am), .val (.ref ap), .val (.ref ak), .val (.ref av)] [(.ref ap), (.ref b271), .null, (.ref am)])) rfl rfl (hb hby d21_26)
  refine Go.step st276 ?_
  show Go _ _ _ _ _ _ _ T276 (mkF m 29 #[.val (.ref am), .val (.ref ap), .val (.ref ak), .val (.ref av)] [(.int (0 : Int32)), (.ref b271), .null, (.ref am)])
  have f278 := (A271.keep Kq274)
  obtain ⟨_, _, ⟨T277, L277, k277, n277⟩, -, X277, ⟨Lc277, hQ277, l277, y277, z277⟩, st277⟩ := Jvm.LawKit.callS X276 hx (y := (⟨"gatherwick/maps/RedBlackTree", "link", "(Lgatherwick/maps/RedBlackTree$Node;Lgatherwick/maps/RedBlackTree$Node;Z)Lgatherwick/maps/RedBlackTree$Node;"⟩ : MethodName)) hown (mvT hZ (own_w hw 142 rfl)) (mvT hZ (own_w hw 143 rfl)) (mvT hZ (own_w hw 144 rfl)) (mvT hZ (own_w hw 145 rfl)) (by decide) (backOf (W := 1) (rmKZ l Z a0 hw [] b271 ak av h274 n0 Z274 f278 g_b271 b_key_274 b_value_274 b_left_274 b_right_274 b_parent_274 b_red_274) hZ (own_w hw 145 rfl) (own_w hw 144 rfl) (by decide) (by decide)) (g := (mkF m 29 #[.val (.ref am), .val (.ref ap), .val (.ref ak), .val (.ref av)] [(.int (0 : Int32)), (.ref b271), .null, (.ref am)])) rfl (by rw [hml]; rfl) (argsL := [.null, (.ref b271), (.int (0 : Int32))]) (rest := [(.ref am)]) (lenOf pd__Lgatherwick_maps_RedBlackTree_Node_Lgatherwick_maps_RedBlackTree_Node_Z_Lgatherwick_maps_RedBlackTree_Node_ rfl) rfl (by show 2 * 0 + _ ≤ _; exact Nat.le_of_eq rfl) (hb hby d21_29) (fun _ _ => ⟨rfl, e276, (by decide : 1 + 0 ≤ _), (by decide : 6 + 0 ≤ _)⟩)
  dsimp only [Pt.U, Pt.locs, Pt.cells, Pt.slots] at X277 l277 y277 z277 st277 hQ277
  subst l277 y277 z277
  obtain ⟨h277, e277⟩ : ∃ h, T277.heap = h := ⟨_, rfl⟩
  rw [e277] at hQ277
  obtain ⟨rfl, Nq277, Kq277, b_key_277, b_value_277, b_left_277, b_right_277, b_parent_277, b_red_277⟩ := hQ277
  have N277 := Fr.app N274 Nq277
  have Z277 : n0 ≤ h277.size := Nat.le_trans Z274 Kq277.1
  have KK277 := KK274.trans Kq277 (allS (Or.inr sz_b271) all0)
  refine Go.step st277 ?_
  show Go _ _ _ _ _ _ _ T277 (mkF m 32 #[.val (.ref am), .val (.ref ap), .val (.ref ak), .val (.ref av)] [(.ref b271), (.ref am)])
  have f279 := (((m_root.ext E271).keep Kq274 (ninS ne_am_b271 nin0)).keep Kq277 (ninS ne_am_b271 nin0))
  have f280 := (((Em.ext E271).keep Kq274).keep Kq277)
  obtain ⟨T281, h281, X281, e281, W281, st281⟩ := putF X277 hx hZ hown (host := "") (Or.inl (own_w hw 52 rfl)) Via.refl e277 f279 f280 (Or.inl (own_w hw 53 rfl)) (own_w hw 1 rfl) (ty := (.object "gatherwick/maps/RedBlackTree$Node")) (by decide) rfl rfl (g := (mkF m 32 #[.val (.ref am), .val (.ref ap), .val (.ref ak), .val (.ref av)] [(.ref b271), (.ref am)])) rfl rfl (hb hby d21_32)
  refine Go.step st281 ?_
  have Fw281 := f279.same W281
  have N281 := Fr.snoc X281 N277 gm
  have Z281 : n0 ≤ h281.size := Nat.le_trans Z277 (Keep.of_wr W281).1
  have KK281 := KK277.wr W281 (Or.inl (List.mem_of_getElem? (i := 0) rfl))
  show Go _ _ _ _ _ _ _ T281 (mkF m 35 #[.val (.ref am), .val (.ref ap), .val (.ref ak), .val (.ref av)] [])
  refine Go.step (fun _ k => XS.aloadN X281.here hx rfl (hb hby d21_35) rfl rfl k) ?_
  refine Go.step (fun _ k => XS.dup X281.here hx rfl (hb hby d21_36) rfl rfl k) ?_
  have f282 := ((((m_size.ext E271).keep Kq274 (ninS ne_am_b271 nin0)).keep Kq277 (ninS ne_am_b271 nin0)).other W281 (Or.inr (slot_ne (a0 := a0) (C := "gatherwick/maps/GwTreeMap") (Or.inl (own_w hw 22 rfl)) (Or.inl (own_w hw 53 rfl)) (by decide) (t := .int) (t' := (.object "gatherwick/maps/RedBlackTree$Node")) (by decide) (by decide))))
  obtain ⟨T283, X283, e283, st283⟩ := getF X281 hx hZ hown (host := "") (Or.inl (own_w hw 21 rfl)) Via.refl e281 f282 (g := (mkF m 37 #[.val (.ref am), .val (.ref ap), .val (.ref ak), .val (.ref av)] [(.ref am), (.ref am)])) rfl rfl (hb hby d21_37)
  refine Go.step st283 ?_
  show Go _ _ _ _ _ _ _ T283 (mkF m 40 #[.val (.ref am), .val (.ref ap), .val (.ref ak), .val (.ref av)] [(.int sz), (.ref am)])
  refine Go.step (fun _ k => XS.iconst X283.here hx rfl (hb hby d21_40) k) ?_
  refine Go.step (fun _ k => XS.iadd X283.here hx rfl (hb hby d21_41) rfl k) ?_
  have f284 := (f280.wr W281)
  obtain ⟨T285, h285, X285, e285, W285, st285⟩ := putF X283 hx hZ hown (host := "") (Or.inl (own_w hw 21 rfl)) Via.refl e283 f282 f284 (Or.inl (own_w hw 22 rfl)) (own_w hw 1 rfl) (ty := .int) (by decide) rfl rfl (g := (mkF m 42 #[.val (.ref am), .val (.ref ap), .val (.ref ak), .val (.ref av)] [(.int (sz + (1 : Int32))), (.ref am)])) rfl rfl (hb hby d21_42)
  refine Go.step st285 ?_
  have Fw285 := f282.same W285
  have N285 := Fr.snoc X285 N281 gm
  have Z285 : n0 ≤ h285.size := Nat.le_trans Z281 (Keep.of_wr W285).1
  have KK285 := KK281.wr W285 (Or.inl (List.mem_of_getElem? (i := 0) rfl))
  show Go _ _ _ _ _ _ _ T285 (mkF m 45 #[.val (.ref am), .val (.ref ap), .val (.ref ak), .val (.ref av)] [])
  refine Go.step (fun _ k => XS.aloadN X285.here hx rfl (hb hby d21_45) rfl rfl k) ?_
  refine Go.step (fun _ k => XS.dup X285.here hx rfl (hb hby d21_46) rfl rfl k) ?_
  have f286 := (((((m_modCount.ext E271).keep Kq274 (ninS ne_am_b271 nin0)).keep Kq277 (ninS ne_am_b271 nin0)).other W281 (Or.inr (slot_ne (a0 := a0) (C := "gatherwick/maps/GwTreeMap") (Or.inl (own_w hw 155 rfl)) (Or.inl (own_w hw 53 rfl)) (by decide) (t := .int) (t' := (.object "gatherwick/maps/RedBlackTree$Node")) (by decide) (by decide)))).other W285 (Or.inr (slot_ne (a0 := a0) (C := "gatherwick/maps/GwTreeMap") (Or.inl (own_w hw 155 rfl)) (Or.inl (own_w hw 22 rfl)) (by decide) (t := .int) (t' := .int) (by decide) (by decide))))
  obtain ⟨T287, X287, e287, st287⟩ := getF X285 hx hZ hown (host := "") (Or.inl (own_w hw 154 rfl)) Via.refl e285 f286 (g := (mkF m 47 #[.val (.ref am), .val (.ref ap), .val (.ref ak), .val (.ref av)] [(.ref am), (.ref am)])) rfl rfl (hb hby d21_47)
  refine Go.step st287 ?_
  show Go _ _ _ _ _ _ _ T287 (mkF m 50 #[.val (.ref am), .val (.ref ap), .val (.ref ak), .val (.ref av)] [(.int mc), (.ref am)])
  refine Go.step (fun _ k => XS.iconst X287.here hx rfl (hb hby d21_50) k) ?_
  refine Go.step (fun _ k => XS.iadd X287.here hx rfl (hb hby d21_51) rfl k) ?_
  have f288 := (f284.wr W285)
  obtain ⟨T289, h289, X289, e289, W289, st289⟩ := putF X287 hx hZ hown (host := "") (Or.inl (own_w hw 154 rfl)) Via.refl e287 f286 f288 (Or.inl (own_w hw 155 rfl)) (own_w hw 1 rfl) (ty := .int) (by decide) rfl rfl (g := (mkF m 52 #[.val (.ref am), .val (.ref ap), .val (.ref ak), .val (.ref av)] [(.int (mc + (1 : Int32))), (.ref am)])) rfl rfl (hb hby d21_52)
  refine Go.step st289 ?_
  have Fw289 := f286.same W289
  have N289 := Fr.snoc X289 N285 gm
  have Z289 : n0 ≤ h289.size := Nat.le_trans Z285 (Keep.of_wr W289).1
  have KK289 := KK285.wr W289 (Or.inl (List.mem_of_getElem? (i := 0) rfl))
  show Go _ _ _ _ _ _ _ T289 (mkF m 55 #[.val (.ref am), .val (.ref ap), .val (.ref ak), .val (.ref av)] [])
  have f290 := ((((f278.keep Kq277).wr W281).wr W285).wr W289)
  have f291 := (((b_key_277.other W281 (Or.inl (Ne.symm ne_am_b271))).other W285 (Or.inl (Ne.symm ne_am_b271))).other W289 (Or.inl (Ne.symm ne_am_b271)))
  have f292 := (((b_value_277.other W281 (Or.inl (Ne.symm ne_am_b271))).other W285 (Or.inl (Ne.symm ne_am_b271))).other W289 (Or.inl (Ne.symm ne_am_b271)))
  have f293 := (((b_left_277.other W281 (Or.inl (Ne.symm ne_am_b271))).other W285 (Or.inl (Ne.symm ne_am_b271))).other W289 (Or.inl (Ne.symm ne_am_b271)))
  have f294 := (((b_right_277.other W281 (Or.inl (Ne.symm ne_am_b271))).other W285 (Or.inl (Ne.symm ne_am_b271))).other W289 (Or.inl (Ne.symm ne_am_b271)))
  have f295 := (((b_parent_277.other W281 (Or.inl (Ne.symm ne_am_b271))).other W285 (Or.inl (Ne.symm ne_am_b271))).other W289 (Or.inl (Ne.symm ne_am_b271)))
  have f296 := (((b_red_277.other W281 (Or.inl (Ne.symm ne_am_b271))).other W285 (Or.inl (Ne.symm ne_am_b271))).other W289 (Or.inl (Ne.symm ne_am_b271)))
  have f297 := ((((((m_comparator.ext E271).keep Kq274 (ninS ne_am_b271 nin0)).keep Kq277 (ninS ne_am_b271 nin0)).other W281 (Or.inr (slot_ne (a0 := a0) (C := "gatherwick/maps/GwTreeMap") (Or.inr (own_w hw 15 rfl)) (Or.inl (own_w hw 53 rfl)) (by decide) (t := (.object "java/util/Comparator")) (t' := (.object "gatherwick/maps/RedBlackTree$Node")) (by decide) (by decide)))).other W285 (Or.inr (slot_ne (a0 := a0) (C := "gatherwick/maps/GwTreeMap") (Or.inr (own_w hw 15 rfl)) (Or.inl (own_w hw 22 rfl)) (by decide) (t := (.object "java/util/Comparator")) (t' := .int) (by decide) (by decide)))).other W289 (Or.inr (slot_ne (a0 := a0) (C := "gatherwick/maps/GwTreeMap") (Or.inr (own_w hw 15 rfl)) (Or.inl (own_w hw 155 rfl)) (by decide) (t := (.object "java/util/Comparator")) (t' := .int) (by decide) (by decide))))
  have f298 := ((Fw281.other W285 (Or.inr (slot_ne (a0 := a0) (C := "gatherwick/maps/GwTreeMap") (Or.inl (own_w hw 53 rfl)) (Or.inl (own_w hw 22 rfl)) (by decide) (t := (.object "gatherwick/maps/RedBlackTree$Node")) (t' := .int) (by decide) (by decide)))).other W289 (Or.inr (slot_ne (a0 := a0) (C := "gatherwick/maps/GwTreeMap") (Or.inl (own_w hw 53 rfl)) (Or.inl (own_w hw 155 rfl)) (by decide) (t := (.object "gatherwick/maps/RedBlackTree$Node")) (t' := .int) (by decide) (by decide))))
  have f299 := (Fw285.other W289 (Or.inr (slot_ne (a0 := a0) (C := "gatherwick/maps/GwTreeMap") (Or.inl (own_w hw 22 rfl)) (Or.inl (own_w hw 155 rfl)) (by decide) (t := .int) (t' := .int) (by decide) (by decide))))
  exact Go.ret0 X289 hx hret hlk (hb hby d21_55) e289 (by decide) (by decide) ⟨b271, rfl, N289, KK289, sz_b271, f290, f291, f292, f293, f294, f295, f296, f297, f298, f299, Fw289⟩
theorem d17_0 : decode prog_46_method_69_code 0 = .ok (.aload_n 0, 1) := by decide +kernel
theorem d17_1 : decode prog_46_method_69_code 1 = .ok (.aload_n 1, 1) := by decide +kernel
theorem d17_2 : decode prog_46_method_69_code 2 = .ok (.aload_n 2, 1) := by decide +kernel
theorem d17_3 : decode prog_46_method_69_code 3 = .ok (.invokevirtual 390, 3) := by decide +kernel
theorem d17_6 : decode prog_46_method_69_code 6 = .ok (.astore 4, 2) := by decide +kernel
theorem d17_8 : decode prog_46_method_69_code 8 = .ok (.aload 4, 2) := by decide +kernel
theorem d17_10 : decode prog_46_method_69_code 10 = .ok (.getfield 394, 3) := by decide +kernel
theorem d17_13 : decode prog_46_method_69_code 13 = .ok (.ifnull 13, 3) := by decide +kernel
theorem d17_16 : decode prog_46_method_69_code 16 = .ok (.aload 4, 2) := by decide +kernel
theorem d17_18 : decode prog_46_method_69_code 18 = .ok (.getfield 394, 3) := by decide +kernel
theorem d17_21 : decode prog_46_method_69_code 21 = .ok (.aload_n 3, 1) := by decide +kernel
theorem d17_22 : decode prog_46_method_69_code 22 = .ok (.invokevirtual 399, 3) := by decide +kernel
theorem d17_25 : decode prog_46_method_69_code 25 = .ok (.areturn, 1) := by decide +kernel
theorem d17_26 : decode prog_46_method_69_code 26 = .ok (.aload_n 0, 1) := by decide +kernel
theorem d17_27 : decode prog_46_method_69_code 27 = .ok (.aload 4, 2) := by decide +kernel
theorem d17_29 : decode prog_46_method_69_code 29 = .ok (.aload_n 2, 1) := by decide +kernel
theorem d17_30 : decode prog_46_method_69_code 30 = .ok (.aload_n 3, 1) := by decide +kernel
theorem d17_31 : decode prog_46_method_69_code 31 = .ok (.invokevirtual 402, 3) := by decide +kernel
theorem d17_34 : decode prog_46_method_69_code 34 = .ok (.aconst_null, 1) := by decide +kernel
theorem d17_35 : decode prog_46_method_69_code 35 = .ok (.areturn, 1) := by decide +kernel
theorem pd__Ljava_lang_Object__Ljava_lang_Object_ : parseMethodDescriptor "(Ljava/lang/Object;)Ljava/lang/Object;" = some ⟨[(.object "java/lang/Object")], some (.object "java/lang/Object")⟩ := by decide +kernel
theorem pd__Lgatherwick_maps_GwTreeMap_Place_Ljava_lang_Object_Ljava_lang_Object__V : parseMethodDescriptor "(Lgatherwick/maps/GwTreeMap$Place;Ljava/lang/Object;Ljava/lang/Object;)V" = some ⟨[(.object "gatherwick/maps/GwTreeMap$Place"), (.object "java/lang/Object"), (.object "java/lang/Object")], none⟩ := by decide +kernel
theorem ef_rmIZ (m : MethodId) (am : Addr) (ak : Addr) (av : Addr) : entryFrame m #[(.ref am), .null, (.ref ak), (.ref av)] 5 = mkF m 0 #[.val (.ref am), .val .null, .val (.ref ak), .val (.ref av), .unset] [] := by first | (simp [entryFrame, mkF, argsToLocals, Value.category]; done) | rfl
def Q_rmIZ (Z : State) (am : Addr) (ak : Addr) (av : Addr) (kv : Int32) (sz : Int32) (mc : Int32) (h0 : Heap) (n0 : Nat) (v : Option Value) (h : Heap) (L : List Loc) : Prop := ∃ an : Addr, (v = some .null) ∧ (Fr n0 L) ∧ (Keep h0 h [am]) ∧ (h0.size ≤ an) ∧ (Exa Z h an "gatherwick/maps/RedBlackTree$Node") ∧ (Fld Z h an "gatherwick/maps/RedBlackTree$Node" "key" "Ljava/lang/Object;" (.ref ak)) ∧ (Fld Z h an "gatherwick/maps/RedBlackTree$Node" "value" "Ljava/lang/Object;" (.ref av)) ∧ (Fld Z h an "gatherwick/maps/RedBlackTree$Node" "left" "Lgatherwick/maps/RedBlackTree$Node;" .null) ∧ (Fld Z h an "gatherwick/maps/RedBlackTree$Node" "right" "Lgatherwick/maps/RedBlackTree$Node;" .null) ∧ (Fld Z h an "gatherwick/maps/RedBlackTree$Node" "parent" "Lgatherwick/maps/RedBlackTree$Node;" .null) ∧ (Fld Z h an "gatherwick/maps/RedBlackTree$Node" "red" "Z" (.int (0 : Int32))) ∧ (Fld Z h am "gatherwick/maps/GwTreeMap" "comparator" "Ljava/util/Comparator;" .null) ∧ (Fld Z h am "gatherwick/maps/GwTreeMap" "root" "Lgatherwick/maps/RedBlackTree$Node;" (.ref an)) ∧ (Fld Z h am "gatherwick/maps/GwTreeMap" "size" "I" (.int (sz + (1 : Int32)))) ∧ (Fld Z h am "gatherwick/maps/GwTreeMap" "modCount" "I" (.int (mc + (1 : Int32))))
theorem rmIZ (l : Launch) (Z : State) (a0 : Array Value) (hw : ∀ d ∈ tables_1, d.before a0 Z = true) (ws : List Jvm.Cond) (am : Addr) (ak : Addr) (av : Addr) (kv : Int32) (sz : Int32) (mc : Int32) (h0 : Heap) (n0 : Nat) (Z0 : n0 ≤ h0.size) (Em : Exa Z h0 am "gatherwick/maps/GwTreeMap") (gm : n0 ≤ am) (m_comparator : Fld Z h0 am "gatherwick/maps/GwTreeMap" "comparator" "Ljava/util/Comparator;" .null) (m_root : Fld Z h0 am "gatherwick/maps/GwTreeMap" "root" "Lgatherwick/maps/RedBlackTree$Node;" .null) (m_size : Fld Z h0 am "gatherwick/maps/GwTreeMap" "size" "I" (.int sz)) (m_modCount : Fld Z h0 am "gatherwick/maps/GwTreeMap" "modCount" "I" (.int mc)) (Ek : Exa Z h0 ak "java/lang/Integer") (Fk : Fld Z h0 ak "java/lang/Integer" "value" "I" (.int kv)) (HT : own_HT Z h0 kv []) (hn : own_sn kv [] = .null) (hp : own_sp kv [] .null = .null) (hl : own_sl kv [] 0 = (0 : Int32)) (hz : ¬ (sz = (2147483639 : Int32))) :
    MetFree l (⟨"gatherwick/maps/GwTreeMap", "putIn", "(Lgatherwick/maps/GwTreeMap$SubMap;Ljava/lang/Object;Ljava/lang/Object;)Ljava/lang/Object;"⟩ : MethodName) (head1 (Jvm.Cond.code (⟨"gatherwick/maps/GwTreeMap", "putIn", "(Lgatherwick/maps/GwTreeMap$SubMap;Ljava/lang/Object;Ljava/lang/Object;)Ljava/lang/Object;"⟩ : MethodName) prog_46_method_69_code 5 (some (.object "java/lang/Object")) :: ws) ({ frames := 8, cells := 2, slots := 9, locals := 115 } : Room)) (fun aA U => aA = #[(.ref am), .null, (.ref ak), (.ref av)] ∧ Z.Warmed39 U.vm ∧ U.heap = h0) (fun _ _ _ _ _ => True) (fun _ U o U' => ∃ v L, o = .returned v ∧ Q_rmIZ Z am ak av kv sz mc h0 n0 v U'.heap L ∧ FrameEnd U o U' L ({ frames := 8, cells := 2, slots := 9, locals := 115 } : Room).cells ({ frames := 8, cells := 2, slots := 9, locals := 115 } : Room).slots) := by
  refine MetFree.of_bodySF (plainFor_of_name pn_gatherwick_maps_GwTreeMap) hisR ?_
  intro p e s m args below meth c s₁ Bd hml0 hP hK
  obtain ⟨rfl, hZ, hh⟩ := hP
  have hx := Bd.exec
  have hby := Bd.bytes
  have hml : c.maxLocals = 5 := hml0
  have hown : s.vm.findClass "gatherwick/maps/GwTreeMap" = some m.cls := findClass_of_methodNamed Bd.named
  have hnm := (name_of_methodNamed Bd.named Bd.method).1
  have hret := Bd.returns
  have hlk : meth.locks = false := BodyLoose.notSynchronized Bd
  have X0 : Stand p l e ({ frames := 8, cells := 2, slots := 9, locals := 115 } : Room) s m #[(.ref am), .null, (.ref ak), (.ref av)] below meth c s₁ [] 0 0 := Stand.of_body Bd
  have e0 : s₁.heap = h0 := by rw [← hh, Bd.state]; rfl
  have N0 := Fr.nil n0
  suffices hgo : Go p e below s ({ frames := 8, cells := 2, slots := 9, locals := 115 } : Room).cells ({ frames := 8, cells := 2, slots := 9, locals := 115 } : Room).slots (Q_rmIZ Z am ak av kv sz mc h0 n0) s₁ (mkF m 0 #[.val (.ref am), .val .null, .val (.ref ak), .val (.ref av), .unset] []) from hgo.enter (ef_rmIZ m am ak av)
  refine Go.step (fun _ k => XS.aloadN X0.here hx rfl (hb hby d17_0) rfl rfl k) ?_
  refine Go.step (fun _ k => XS.aloadN X0.here hx rfl (hb hby d17_1) rfl rfl k) ?_
  refine Go.step (fun _ k => XS.aloadN X0.here hx rfl (hb hby d17_2) rfl rfl k) ?_
  obtain ⟨cq300, q300, q300'⟩ := Em.cell
  obtain ⟨_, _, ⟨T300, L300, k300, n300⟩, -, X300, ⟨Lc300, hQ300, l300, y300, z300⟩, st300⟩ := X0.privateBack hx (y := (⟨"gatherwick/maps/GwTreeMap", "locateToAdd", "(Lgatherwick/maps/GwTreeMap$SubMap;Ljava/lang/Object;)Lgatherwick/maps/GwTreeMap$Place;"⟩ : MethodName)) hown (mvT hZ (own_w hw 93 rfl)) (mvT hZ (own_w hw 94 rfl)) (own_selp (mvT hZ (own_w hw 1 rfl)) (Cond.privateMethod_at (mvP hZ (own_w hw 95 rfl) (args := #[]))) (mvT hZ (own_w hw 94 rfl)) (by decide)) (Cond.privateMethod_at (mvP hZ (own_w hw 95 rfl) (args := #[]))) (mvT hZ (own_w hw 96 rfl)) (by decide) (backOf (W := 0) (rmLa l Z a0 hw [] am ak kv [] .null .null (0 : Int32) h0 n0 Z0 Em m_comparator m_root Ek Fk HT rfl hn hp hl) hZ (own_w hw 96 rfl) (own_w hw 2 rfl) (by decide) (by decide)) (g := (mkF m 3 #[.val (.ref am), .val .null, .val (.ref ak), .val (.ref av), .unset] [(.ref ak), .null, (.ref am)])) rfl (by rw [hml]; rfl) (Steps.refl _) (a := am) (by rw [e0]; exact q300) q300' (argsL := [.null, (.ref ak)]) (rest := []) (lenOf pd__Lgatherwick_maps_GwTreeMap_SubMap_Ljava_lang_Object__Lgatherwick_maps_GwTreeMap_Place_ rfl) rfl (by show 2 * 0 + _ ≤ _; exact Nat.le_of_eq rfl) (hb hby d17_3) (fun _ _ => ⟨rfl, e0, (by decide : 0 + 1 ≤ _), (by decide : 0 + 3 ≤ _)⟩)
  dsimp only [Pt.U, Pt.locs, Pt.cells, Pt.slots] at X300 l300 y300 z300 st300 hQ300
  subst l300 y300 z300
  obtain ⟨h300, e300⟩ : ∃ h, T300.heap = h := ⟨_, rfl⟩
  rw [e300] at hQ300
  obtain ⟨ap_300, rfl, Nq300, Kq300, sz__300, Ep_300, Qn_300, Qp_300, Ql_300⟩ := hQ300
  have N300 := Fr.app N0 Nq300
  have Z300 : n0 ≤ h300.size := Nat.le_trans Z0 Kq300.1
  have KK300 := (Keep.refl h0 [am]).trans Kq300 all0
  have g_ap_300 : n0 ≤ ap_300 := Nat.le_trans Z0 sz__300
  have sz_ap_300 : h0.size ≤ ap_300 := Nat.le_trans (Keep.refl h0 [am]).1 sz__300
  have ne_ak_ap_300 : ak ≠ ap_300 := Nat.ne_of_lt (Nat.lt_of_lt_of_le Ek.lt sz__300)
  have ne_am_ap_300 : am ≠ ap_300 := Nat.ne_of_lt (Nat.lt_of_lt_of_le Em.lt sz__300)
  have Ql_300 : Fld Z h300 ap_300 "gatherwick/maps/GwTreeMap$Place" "left" "Z" (.int (0 : Int32)) := Ql_300
  refine Go.trans st300 ?_
  show Go _ _ _ _ _ _ _ T300 (mkF m 6 #[.val (.ref am), .val .null, .val (.ref ak), .val (.ref av), .unset] [(.ref ap_300)])
  refine Go.step (fun _ k => XS.astore X300.here hx rfl (hb hby d17_6) rfl rfl (l' := #[.val (.ref am), .val .null, .val (.ref ak), .val (.ref av), .val (.ref ap_300)]) rfl k) ?_
  show Go _ _ _ _ _ _ _ T300 (mkF m 8 #[.val (.ref am), .val .null, .val (.ref ak), .val (.ref av), .val (.ref ap_300)] [])
  refine Go.step (fun _ k => XS.aload X300.here hx rfl (hb hby d17_8) rfl rfl k) ?_
  obtain ⟨T301, X301, e301, st301⟩ := getF X300 hx hZ hown (host := "") (Or.inl (own_w hw 108 rfl)) Via.refl e300 Qn_300 (g := (mkF m 10 #[.val (.ref am), .val .null, .val (.ref ak), .val (.ref av), .val (.ref ap_300)] [(.ref ap_300)])) rfl rfl (hb hby d17_10)
  refine Go.step st301 ?_
  show Go _ _ _ _ _ _ _ T301 (mkF m 13 #[.val (.ref am), .val .null, .val (.ref ak), .val (.ref av), .val (.ref ap_300)] [.null])
  refine Go.step (fun _ k => XS.ifnullYes X301.here hx rfl (pc0 := 13) (pc' := 26) rfl (hb hby d17_13) rfl (by decide) (by decide) k) ?_
  show Go _ _ _ _ _ _ _ T301 (mkF m 26 #[.val (.ref am), .val .null, .val (.ref ak), .val (.ref av), .val (.ref ap_300)] [])
  refine Go.step (fun _ k => XS.aloadN X301.here hx rfl (hb hby d17_26) rfl rfl k) ?_
  refine Go.step (fun _ k => XS.aload X301.here hx rfl (hb hby d17_27) rfl rfl k) ?_
  refine Go.step (fun _ k => XS.aloadN X301.here hx rfl (hb hby d17_29) rfl rfl k) ?_
  refine Go.step (fun _ k => XS.aloadN X301.here hx rfl (hb hby d17_30) rfl rfl k) ?_
  have f303 := (Em.keep Kq300)
  have f304 := (m_comparator.keep Kq300 nin0)
  have f305 := (m_root.keep Kq300 nin0)
  have f306 := (m_size.keep Kq300 nin0)
  have f307 := (m_modCount.keep Kq300 nin0)
  obtain ⟨cq302, q302, q302'⟩ := f303.cell
  obtain ⟨_, _, ⟨T302, L302, k302, n302⟩, -, X302, ⟨Lc302, hQ302, l302, y302, z302⟩, st302⟩ := X301.privateBack hx (y := (⟨"gatherwick/maps/GwTreeMap", "link", "(Lgatherwick/maps/GwTreeMap$Place;Ljava/lang/Object;Ljava/lang/Object;)V"⟩ : MethodName)) hown (mvT hZ (own_w hw 110 rfl)) (mvT hZ (own_w hw 111 rfl)) (own_selp (mvT hZ (own_w hw 1 rfl)) (Cond.privateMethod_at (mvP hZ (own_w hw 112 rfl) (args := #[]))) (mvT hZ (own_w hw 111 rfl)) (by decide)) (Cond.privateMethod_at (mvP hZ (own_w hw 112 rfl) (args := #[]))) (mvT hZ (own_w hw 113 rfl)) (by decide) (backOf (W := 0) (rmMZ l Z a0 hw [] am ap_300 ak av sz mc h300 n0 Z300 f303 gm f304 f305 f306 f307 Ep_300 Qp_300 Ql_300 hz) hZ (own_w hw 113 rfl) (own_w hw 2 rfl) (by decide) (by decide)) (g := (mkF m 31 #[.val (.ref am), .val .null, .val (.ref ak), .val (.ref av), .val (.ref ap_300)] [(.ref av), (.ref ak), (.ref ap_300), (.ref am)])) rfl (by rw [hml]; rfl) (Steps.refl _) (a := am) (by rw [e301]; exact q302) q302' (argsL := [(.ref ap_300), (.ref ak), (.ref av)]) (rest := []) (lenOf pd__Lgatherwick_maps_GwTreeMap_Place_Ljava_lang_Object_Ljava_lang_Object__V rfl) rfl (by show 2 * 0 + _ ≤ _; exact Nat.le_of_eq rfl) (hb hby d17_31) (fun _ _ => ⟨rfl, e301, (by decide : 1 + 1 ≤ _), (by decide : 3 + 6 ≤ _)⟩)
  dsimp only [Pt.U, Pt.locs, Pt.cells, Pt.slots] at X302 l302 y302 z302 st302 hQ302
  subst l302 y302 z302
  obtain ⟨h302, e302⟩ : ∃ h, T302.heap = h := ⟨_, rfl⟩
  rw [e302] at hQ302
  have f308 := (Ek.keep Kq300)
  obtain ⟨an_302, rfl, Nq302, Kq302, szn_302, E_n_302, b_key_302, b_value_302, b_left_302, b_right_302, b_parent_302, b_red_302, q_comparator_302, q_root_302, q_size_302, q_modCount_302⟩ := hQ302
  have N302 := Fr.app N300 Nq302
  have Z302 : n0 ≤ h302.size := Nat.le_trans Z300 Kq302.1
  have KK302 := KK300.trans Kq302 (allS (Or.inl (List.mem_of_getElem? (i := 0) rfl)) all0)
  have g_an_302 : n0 ≤ an_302 := Nat.le_trans Z300 szn_302
  have sz_an_302 : h0.size ≤ an_302 := Nat.le_trans KK300.1 szn_302
  have ne_ak_an_302 : ak ≠ an_302 := Nat.ne_of_lt (Nat.lt_of_lt_of_le f308.lt szn_302)
  have ne_am_an_302 : am ≠ an_302 := Nat.ne_of_lt (Nat.lt_of_lt_of_le f303.lt szn_302)
  have ne_ap_300_an_302 : ap_300 ≠ an_302 := Nat.ne_of_lt (Nat.lt_of_lt_of_le Ep_300.lt szn_302)
  refine Go.trans st302 ?_
  show Go _ _ _ _ _ _ _ T302 (mkF m 34 #[.val (.ref am), .val .null, .val (.ref ak), .val (.ref av), .val (.ref ap_300)] [])
  refine Go.step (fun _ k => XS.aconstNull X302.here hx rfl (hb hby d17_34) k) ?_
  exact Go.retA X302 hx hret hlk rfl rfl (hb hby d17_35) e302 (by decide) (by decide) ⟨an_302, rfl, N302, KK302, sz_an_302, E_n_302, b_key_302, b_value_302, b_left_302, b_right_302, b_parent_302, b_red_302, q_comparator_302, q_root_302, q_size_302, q_modCount_302⟩
theorem d16_0 : decode prog_46_method_16_code 0 = .ok (.aload_n 0, 1) := by decide +kernel
theorem d16_1 : decode prog_46_method_16_code 1 = .ok (.aconst_null, 1) := by decide +kernel
theorem d16_2 : decode prog_46_method_16_code 2 = .ok (.aload_n 1, 1) := by decide +kernel
theorem d16_3 : decode prog_46_method_16_code 3 = .ok (.aload_n 2, 1) := by decide +kernel
theorem d16_4 : decode prog_46_method_16_code 4 = .ok (.invokevirtual 91, 3) := by decide +kernel
theorem d16_7 : decode prog_46_method_16_code 7 = .ok (.areturn, 1) := by decide +kernel
theorem pd__Lgatherwick_maps_GwTreeMap_SubMap_Ljava_lang_Object_Ljava_lang_Object__Ljava_lang_Object_ : parseMethodDescriptor "(Lgatherwick/maps/GwTreeMap$SubMap;Ljava/lang/Object;Ljava/lang/Object;)Ljava/lang/Object;" = some ⟨[(.object "gatherwick/maps/GwTreeMap$SubMap"), (.object "java/lang/Object"), (.object "java/lang/Object")], some (.object "java/lang/Object")⟩ := by decide +kernel
theorem ef_rmUZ (m : MethodId) (am : Addr) (ak : Addr) (av : Addr) : entryFrame m #[(.ref am), (.ref ak), (.ref av)] 3 = mkF m 0 #[.val (.ref am), .val (.ref ak), .val (.ref av)] [] := by first | (simp [entryFrame, mkF, argsToLocals, Value.category]; done) | rfl
def Q_rmUZ (Z : State) (am : Addr) (ak : Addr) (av : Addr) (kv : Int32) (sz : Int32) (mc : Int32) (h0 : Heap) (n0 : Nat) (v : Option Value) (h : Heap) (L : List Loc) : Prop := ∃ an : Addr, (v = some .null) ∧ (Fr n0 L) ∧ (Keep h0 h [am]) ∧ (h0.size ≤ an) ∧ (Exa Z h an "gatherwick/maps/RedBlackTree$Node") ∧ (Fld Z h an "gatherwick/maps/RedBlackTree$Node" "key" "Ljava/lang/Object;" (.ref ak)) ∧ (Fld Z h an "gatherwick/maps/RedBlackTree$Node" "value" "Ljava/lang/Object;" (.ref av)) ∧ (Fld Z h an "gatherwick/maps/RedBlackTree$Node" "left" "Lgatherwick/maps/RedBlackTree$Node;" .null) ∧ (Fld Z h an "gatherwick/maps/RedBlackTree$Node" "right" "Lgatherwick/maps/RedBlackTree$Node;" .null) ∧ (Fld Z h an "gatherwick/maps/RedBlackTree$Node" "parent" "Lgatherwick/maps/RedBlackTree$Node;" .null) ∧ (Fld Z h an "gatherwick/maps/RedBlackTree$Node" "red" "Z" (.int (0 : Int32))) ∧ (Fld Z h am "gatherwick/maps/GwTreeMap" "comparator" "Ljava/util/Comparator;" .null) ∧ (Fld Z h am "gatherwick/maps/GwTreeMap" "root" "Lgatherwick/maps/RedBlackTree$Node;" (.ref an)) ∧ (Fld Z h am "gatherwick/maps/GwTreeMap" "size" "I" (.int (sz + (1 : Int32)))) ∧ (Fld Z h am "gatherwick/maps/GwTreeMap" "modCount" "I" (.int (mc + (1 : Int32))))
theorem rmUZ (l : Launch) (Z : State) (a0 : Array Value) (hw : ∀ d ∈ tables_1, d.before a0 Z = true) (ws : List Jvm.Cond) (am : Addr) (ak : Addr) (av : Addr) (kv : Int32) (sz : Int32) (mc : Int32) (h0 : Heap) (n0 : Nat) (Z0 : n0 ≤ h0.size) (Em : Exa Z h0 am "gatherwick/maps/GwTreeMap") (gm : n0 ≤ am) (m_comparator : Fld Z h0 am "gatherwick/maps/GwTreeMap" "comparator" "Ljava/util/Comparator;" .null) (m_root : Fld Z h0 am "gatherwick/maps/GwTreeMap" "root" "Lgatherwick/maps/RedBlackTree$Node;" .null) (m_size : Fld Z h0 am "gatherwick/maps/GwTreeMap" "size" "I" (.int sz)) (m_modCount : Fld Z h0 am "gatherwick/maps/GwTreeMap" "modCount" "I" (.int mc)) (Ek : Exa Z h0 ak "java/lang/Integer") (Fk : Fld Z h0 ak "java/lang/Integer" "value" "I" (.int kv)) (HT : own_HT Z h0 kv []) (hn : own_sn kv [] = .null) (hp : own_sp kv [] .null = .null) (hl : own_sl kv [] 0 = (0 : Int32)) (hz : ¬ (sz = (2147483639 : Int32))) :
    MetFree l (⟨"gatherwick/maps/GwTreeMap", "put", "(Ljava/lang/Object;Ljava/lang/Object;)Ljava/lang/Object;"⟩ : MethodName) (head1 (Jvm.Cond.code (⟨"gatherwick/maps/GwTreeMap", "put", "(Ljava/lang/Object;Ljava/lang/Object;)Ljava/lang/Object;"⟩ : MethodName) prog_46_method_16_code 3 (some (.object "java/lang/Object")) :: ws) ({ frames := 9, cells := 2, slots := 9, locals := 131 } : Room)) (fun aA U => aA = #[(.ref am), (.ref ak), (.ref av)] ∧ Z.Warmed39 U.vm ∧ U.heap = h0) (fun _ _ _ _ _ => True) (fun _ U o U' => ∃ v L, o = .returned v ∧ Q_rmUZ Z am ak av kv sz mc h0 n0 v U'.heap L ∧ FrameEnd U o U' L ({ frames := 9, cells := 2, slots := 9, locals := 131 } : Room).cells ({ frames := 9, cells := 2, slots := 9, locals := 131 } : Room).slots) := by
  refine MetFree.of_bodySF (plainFor_of_name pn_gatherwick_maps_GwTreeMap) hisR ?_
  intro p e s m args below meth c s₁ Bd hml0 hP hK
  obtain ⟨rfl, hZ, hh⟩ := hP
  have hx := Bd.exec
  have hby := Bd.bytes
  have hml : c.maxLocals = 3 := hml0
  have hown : s.vm.findClass "gatherwick/maps/GwTreeMap" = some m.cls := findClass_of_methodNamed Bd.named
  have hnm := (name_of_methodNamed Bd.named Bd.method).1
  have hret := Bd.returns
  have hlk : meth.locks = false := BodyLoose.notSynchronized Bd
  have X0 : Stand p l e ({ frames := 9, cells := 2, slots := 9, locals := 131 } : Room) s m #[(.ref am), (.ref ak), (.ref av)] below meth c s₁ [] 0 0 := Stand.of_body Bd
  have e0 : s₁.heap = h0 := by rw [← hh, Bd.state]; rfl
  have N0 := Fr.nil n0
  suffices hgo : Go p e below s ({ frames := 9, cells := 2, slots := 9, locals := 131 } : Room).cells ({ frames := 9, cells := 2, slots := 9, locals := 131 } : Room).slots (Q_rmUZ Z am ak av kv sz mc h0 n0) s₁ (mkF m 0 #[.val (.ref am), .val (.ref ak), .val (.ref av)] []) from hgo.enter (ef_rmUZ m am ak av)
  refine Go.step (fun _ k => XS.aloadN X0.here hx rfl (hb hby d16_0) rfl rfl k) ?_
  refine Go.step (fun _ k => XS.aconstNull X0.here hx rfl (hb hby d16_1) k) ?_
  refine Go.step (fun _ k => XS.aloadN X0.here hx rfl (hb hby d16_2) rfl rfl k) ?_
  refine Go.step (fun _ k => XS.aloadN X0.here hx rfl (hb hby d16_3) rfl rfl k) ?_
  obtain ⟨cq309, q309, q309'⟩ := Em.cell
  obtain ⟨_, _, ⟨T309, L309, k309, n309⟩, -, X309, ⟨Lc309, hQ309, l309, y309, z309⟩, st309⟩ := X0.privateBack hx (y := (⟨"gatherwick/maps/GwTreeMap", "putIn", "(Lgatherwick/maps/GwTreeMap$SubMap;Ljava/lang/Object;Ljava/lang/Object;)Ljava/lang/Object;"⟩ : MethodName)) hown (mvT hZ (own_w hw 89 rfl)) (mvT hZ (own_w hw 90 rfl)) (own_selp (mvT hZ (own_w hw 1 rfl)) (Cond.privateMethod_at (mvP hZ (own_w hw 91 rfl) (args := #[]))) (mvT hZ (own_w hw 90 rfl)) (by decide)) (Cond.privateMethod_at (mvP hZ (own_w hw 91 rfl) (args := #[]))) (mvT hZ (own_w hw 92 rfl)) (by decide) (backOf (W := 0) (rmIZ l Z a0 hw [] am ak av kv sz mc h0 n0 Z0 Em gm m_comparator m_root m_size m_modCount Ek Fk HT hn hp hl hz) hZ (own_w hw 92 rfl) (own_w hw 2 rfl) (by decide) (by decide)) (g := (mkF m 4 #[.val (.ref am), .val (.ref ak), .val (.ref av)] [(.ref av), (.ref ak), .null, (.ref am)])) rfl (by rw [hml]; rfl) (Steps.refl _) (a := am) (by rw [e0]; exact q309) q309' (argsL := [.null, (.ref ak), (.ref av)]) (rest := []) (lenOf pd__Lgatherwick_maps_GwTreeMap_SubMap_Ljava_lang_Object_Ljava_lang_Object__Ljava_lang_Object_ rfl) rfl (by show 2 * 0 + _ ≤ _; exact Nat.le_of_eq rfl) (hb hby d16_4) (fun _ _ => ⟨rfl, e0, (by decide : 0 + 2 ≤ _), (by decide : 0 + 9 ≤ _)⟩)
  dsimp only [Pt.U, Pt.locs, Pt.cells, Pt.slots] at X309 l309 y309 z309 st309 hQ309
  subst l309 y309 z309
  obtain ⟨h309, e309⟩ : ∃ h, T309.heap = h := ⟨_, rfl⟩
  rw [e309] at hQ309
  obtain ⟨an_309, rfl, Nq309, Kq309, szn_309, E_n_309, b_key_309, b_value_309, b_left_309, b_right_309, b_parent_309, b_red_309, q_comparator_309, q_root_309, q_size_309, q_modCount_309⟩ := hQ309
  have N309 := Fr.app N0 Nq309
  have Z309 : n0 ≤ h309.size := Nat.le_trans Z0 Kq309.1
  have KK309 := (Keep.refl h0 [am]).trans Kq309 (allS (Or.inl (List.mem_of_getElem? (i := 0) rfl)) all0)
  have g_an_309 : n0 ≤ an_309 := Nat.le_trans Z0 szn_309
  have sz_an_309 : h0.size ≤ an_309 := Nat.le_trans (Keep.refl h0 [am]).1 szn_309
  have ne_ak_an_309 : ak ≠ an_309 := Nat.ne_of_lt (Nat.lt_of_lt_of_le Ek.lt szn_309)
  have ne_am_an_309 : am ≠ an_309 := Nat.ne_of_lt (Nat.lt_of_lt_of_le Em.lt szn_309)
  refine Go.trans st309 ?_
  show Go _ _ _ _ _ _ _ T309 (mkF m 7 #[.val (.ref am), .val (.ref ak), .val (.ref av)] [.null])
  exact Go.retA X309 hx hret hlk rfl rfl (hb hby d16_7) e309 (by decide) (by decide) ⟨an_309, rfl, N309, KK309, sz_an_309, E_n_309, b_key_309, b_value_309, b_left_309, b_right_309, b_parent_309, b_red_309, q_comparator_309, q_root_309, q_size_309, q_modCount_309⟩
theorem ef_rmBol (m : MethodId) (n1 : Addr) (an : Addr) : entryFrame m #[(.ref n1), (.ref an)] 5 = mkF m 0 #[.val (.ref n1), .val (.ref an), .unset, .unset, .unset] [] := by first | (simp [entryFrame, mkF, argsToLocals, Value.category]; done) | rfl
def Q_rmBol (Z : State) (n1 : Addr) (an : Addr) (x1 : Addr) (y1 : Addr) (vo : Value) (h0 : Heap) (n0 : Nat) (v : Option Value) (h : Heap) (L : List Loc) : Prop := (v = some (.ref n1)) ∧ (Fr n0 L) ∧ (Keep h0 h [n1]) ∧ (Fld Z h n1 "gatherwick/maps/RedBlackTree$Node" "key" "Ljava/lang/Object;" (.ref x1)) ∧ (Fld Z h n1 "gatherwick/maps/RedBlackTree$Node" "value" "Ljava/lang/Object;" (.ref y1)) ∧ (Fld Z h n1 "gatherwick/maps/RedBlackTree$Node" "left" "Lgatherwick/maps/RedBlackTree$Node;" (.ref an)) ∧ (Fld Z h n1 "gatherwick/maps/RedBlackTree$Node" "right" "Lgatherwick/maps/RedBlackTree$Node;" vo) ∧ (Fld Z h n1 "gatherwick/maps/RedBlackTree$Node" "parent" "Lgatherwick/maps/RedBlackTree$Node;" .null) ∧ (Fld Z h n1 "gatherwick/maps/RedBlackTree$Node" "red" "Z" (.int (0 : Int32)))
theorem rmBol (l : Launch) (Z : State) (a0 : Array Value) (hw : ∀ d ∈ tables_1, d.before a0 Z = true) (ws : List Jvm.Cond) (n1 : Addr) (an : Addr) (x1 : Addr) (y1 : Addr) (vo : Value) (h0 : Heap) (n0 : Nat) (Z0 : n0 ≤ h0.size) (E_n1 : Exa Z h0 n1 "gatherwick/maps/RedBlackTree$Node") (g_n1 : n0 ≤ n1) (c_key : Fld Z h0 n1 "gatherwick/maps/RedBlackTree$Node" "key" "Ljava/lang/Object;" (.ref x1)) (c_value : Fld Z h0 n1 "gatherwick/maps/RedBlackTree$Node" "value" "Ljava/lang/Object;" (.ref y1)) (c_left : Fld Z h0 n1 "gatherwick/maps/RedBlackTree$Node" "left" "Lgatherwick/maps/RedBlackTree$Node;" (.ref an)) (c_right : Fld Z h0 n1 "gatherwick/maps/RedBlackTree$Node" "right" "Lgatherwick/maps/RedBlackTree$Node;" vo) (c_parent : Fld Z h0 n1 "gatherwick/maps/RedBlackTree$Node" "parent" "Lgatherwick/maps/RedBlackTree$Node;" .null) (c_red : Fld Z h0 n1 "gatherwick/maps/RedBlackTree$Node" "red" "Z" (.int (0 : Int32))) (a_parent : Fld Z h0 an "gatherwick/maps/RedBlackTree$Node" "parent" "Lgatherwick/maps/RedBlackTree$Node;" (.ref n1)) :
    MetFree l (⟨"gatherwick/maps/RedBlackTree", "rebalanceAfterLink", "(Lgatherwick/maps/RedBlackTree$Node;Lgatherwick/maps/RedBlackTree$Node;)Lgatherwick/maps/RedBlackTree$Node;"⟩ : MethodName) (head1 (Jvm.Cond.code (⟨"gatherwick/maps/RedBlackTree", "rebalanceAfterLink", "(Lgatherwick/maps/RedBlackTree$Node;Lgatherwick/maps/RedBlackTree$Node;)Lgatherwick/maps/RedBlackTree$Node;"⟩ : MethodName) prog_57_method_3_code 5 (some (.object "gatherwick/maps/RedBlackTree$Node")) :: ws) ({ frames := 1, cells := 0, slots := 0, locals := 12 } : Room)) (fun aA U => aA = #[(.ref n1), (.ref an)] ∧ Z.Warmed39 U.vm ∧ U.heap = h0) (fun _ _ _ _ _ => True) (fun _ U o U' => ∃ v L, o = .returned v ∧ Q_rmBol Z n1 an x1 y1 vo h0 n0 v U'.heap L ∧ FrameEnd U o U' L ({ frames := 1, cells := 0, slots := 0, locals := 12 } : Room).cells ({ frames := 1, cells := 0, slots := 0, locals := 12 } : Room).slots) := by
  refine MetFree.of_bodySF (plainFor_of_name pn_gatherwick_maps_RedBlackTree) hisR ?_
  intro p e s m args below meth c s₁ Bd hml0 hP hK
  obtain ⟨rfl, hZ, hh⟩ := hP
  have hx := Bd.exec
  have hby := Bd.bytes
  have hml : c.maxLocals = 5 := hml0
  have hown : s.vm.findClass "gatherwick/maps/RedBlackTree" = some m.cls := findClass_of_methodNamed Bd.named
  have hnm := (name_of_methodNamed Bd.named Bd.method).1
  have hret := Bd.returns
  have hlk : meth.locks = false := BodyLoose.notSynchronized Bd
  have X0 : Stand p l e ({ frames := 1, cells := 0, slots := 0, locals := 12 } : Room) s m #[(.ref n1), (.ref an)] below meth c s₁ [] 0 0 := Stand.of_body Bd
  have e0 : s₁.heap = h0 := by rw [← hh, Bd.state]; rfl
  have N0 := Fr.nil n0
  suffices hgo : Go p e below s ({ frames := 1, cells := 0, slots := 0, locals := 12 } : Room).cells ({ frames := 1, cells := 0, slots := 0, locals := 12 } : Room).slots (Q_rmBol Z n1 an x1 y1 vo h0 n0) s₁ (mkF m 0 #[.val (.ref n1), .val (.ref an), .unset, .unset, .unset] []) from hgo.enter (ef_rmBol m n1 an)
  refine Go.step (fun _ k => XS.aloadN X0.here hx rfl (hb hby d26_0) rfl rfl k) ?_
  obtain ⟨T310, X310, e310, st310⟩ := getF X0 hx hZ hown (host := "") (Or.inl (own_w hw 146 rfl)) Via.refl e0 a_parent (g := (mkF m 1 #[.val (.ref n1), .val (.ref an), .unset, .unset, .unset] [(.ref an)])) rfl rfl (hb hby d26_1)
  refine Go.step st310 ?_
  show Go _ _ _ _ _ _ _ T310 (mkF m 4 #[.val (.ref n1), .val (.ref an), .unset, .unset, .unset] [(.ref n1)])
  obtain ⟨_, _, ⟨T311, L311, k311, n311⟩, -, X311, ⟨Lc311, hQ311, l311, y311, z311⟩, st311⟩ := Jvm.LawKit.callS X310 hx (y := (⟨"gatherwick/maps/RedBlackTree", "isRed", "(Lgatherwick/maps/RedBlackTree$Node;)Z"⟩ : MethodName)) hown (mvT hZ (own_w hw 150 rfl)) (mvT hZ (own_w hw 151 rfl)) (mvT hZ (own_w hw 144 rfl)) (mvT hZ (own_w hw 152 rfl)) (by decide) (backOf (W := 0) (rmRz l Z a0 hw [] n1 h0 n0 Z0 c_red) hZ (own_w hw 152 rfl) (own_w hw 144 rfl) (by decide) (by decide)) (g := (mkF m 4 #[.val (.ref n1), .val (.ref an), .unset, .unset, .unset] [(.ref n1)])) rfl (by rw [hml]; rfl) (argsL := [(.ref n1)]) (rest := []) (lenOf pd__Lgatherwick_maps_RedBlackTree_Node__Z rfl) rfl (by show 2 * 0 + _ ≤ _; exact Nat.le_of_eq rfl) (hb hby d26_4) (fun _ _ => ⟨rfl, e310, (by decide : 0 + 0 ≤ _), (by decide : 0 + 0 ≤ _)⟩)
  dsimp only [Pt.U, Pt.locs, Pt.cells, Pt.slots] at X311 l311 y311 z311 st311 hQ311
  subst l311 y311 z311
  obtain ⟨h311, e311⟩ : ∃ h, T311.heap = h := ⟨_, rfl⟩
  rw [e311] at hQ311
  obtain ⟨rfl, Nq311, hs311⟩ := hQ311
  have N311 := Fr.app N0 Nq311
  rw [hs311] at e311
  refine Go.step st311 ?_
  show Go _ _ _ _ _ _ _ T311 (mkF m 7 #[.val (.ref n1), .val (.ref an), .unset, .unset, .unset] [(.int (0 : Int32))])
  have hc7_312 : (0 : Int32) = (0 : Int32) := (by decide)
  refine Go.step (fun _ k => XS.ifYes X311.here hx rfl (pc0 := 7) (pc' := 178) rfl (hb hby d26_7) rfl ((if0 _ _).trans (teq hc7_312).1) (by decide) (by decide) k) ?_
  show Go _ _ _ _ _ _ _ T311 (mkF m 178 #[.val (.ref n1), .val (.ref an), .unset, .unset, .unset] [])
  refine Go.step (fun _ k => XS.aloadN X311.here hx rfl (hb hby d26_178) rfl rfl k) ?_
  refine Go.step (fun _ k => XS.iconst X311.here hx rfl (hb hby d26_179) k) ?_
  obtain ⟨T313, h313, X313, e313, W313, st313⟩ := putFN X311 hx hZ hown (own_w hw 153 rfl) Via.refl e311 c_red E_n1 (Or.inl (own_w hw 133 rfl)) (own_w hw 119 rfl) (ty := .boolean) (v' := (.int (0 : Int32))) (by decide) rfl rfl (g := (mkF m 180 #[.val (.ref n1), .val (.ref an), .unset, .unset, .unset] [(.int (0 : Int32)), (.ref n1)])) rfl rfl (hb hby d26_180)
  refine Go.step st313 ?_
  have Fw313 := c_red.same W313
  have N313 := Fr.snoc X313 N311 g_n1
  have Z313 : n0 ≤ h313.size := Nat.le_trans Z0 (Keep.of_wr W313).1
  have KK313 := (Keep.refl h0 [n1]).wr W313 (Or.inl (List.mem_of_getElem? (i := 0) rfl))
  show Go _ _ _ _ _ _ _ T313 (mkF m 183 #[.val (.ref n1), .val (.ref an), .unset, .unset, .unset] [])
  refine Go.step (fun _ k => XS.aloadN X313.here hx rfl (hb hby d26_183) rfl rfl k) ?_
  have f314 := (c_key.other W313 (Or.inr (slot_ne (a0 := a0) (C := "gatherwick/maps/RedBlackTree$Node") (Or.inr (own_w hw 135 rfl)) (Or.inl (own_w hw 133 rfl)) (by decide) (t := (.object "java/lang/Object")) (t' := .boolean) (by decide) (by decide))))
  have f315 := (c_value.other W313 (Or.inr (slot_ne (a0 := a0) (C := "gatherwick/maps/RedBlackTree$Node") (Or.inl (own_w hw 137 rfl)) (Or.inl (own_w hw 133 rfl)) (by decide) (t := (.object "java/lang/Object")) (t' := .boolean) (by decide) (by decide))))
  have f316 := (c_left.other W313 (Or.inr (slot_ne (a0 := a0) (C := "gatherwick/maps/RedBlackTree$Node") (Or.inl (own_w hw 179 rfl)) (Or.inl (own_w hw 133 rfl)) (by decide) (t := (.object "gatherwick/maps/RedBlackTree$Node")) (t' := .boolean) (by decide) (by decide))))
  have f317 := (c_right.other W313 (Or.inr (slot_ne (a0 := a0) (C := "gatherwick/maps/RedBlackTree$Node") (Or.inl (own_w hw 176 rfl)) (Or.inl (own_w hw 133 rfl)) (by decide) (t := (.object "gatherwick/maps/RedBlackTree$Node")) (t' := .boolean) (by decide) (by decide))))
  have f318 := (c_parent.other W313 (Or.inr (slot_ne (a0 := a0) (C := "gatherwick/maps/RedBlackTree$Node") (Or.inl (own_w hw 139 rfl)) (Or.inl (own_w hw 133 rfl)) (by decide) (t := (.object "gatherwick/maps/RedBlackTree$Node")) (t' := .boolean) (by decide) (by decide))))
  exact Go.retA X313 hx hret hlk rfl rfl (hb hby d26_184) e313 (by decide) (by decide) ⟨rfl, N313, KK313, f314, f315, f316, f317, f318, Fw313⟩
theorem ef_rmKOl (m : MethodId) (n1 : Addr) (an : Addr) : entryFrame m #[(.ref n1), (.ref an), (.int (1 : Int32))] 4 = mkF m 0 #[.val (.ref n1), .val (.ref an), .val (.int (1 : Int32)), .unset] [] := by first | (simp [entryFrame, mkF, argsToLocals, Value.category]; done) | rfl
def Q_rmKOl (Z : State) (n1 : Addr) (an : Addr) (x1 : Addr) (y1 : Addr) (vo : Value) (xk : Addr) (xv : Addr) (h0 : Heap) (n0 : Nat) (v : Option Value) (h : Heap) (L : List Loc) : Prop := (v = some (.ref n1)) ∧ (Fr n0 L) ∧ (Keep h0 h [n1]) ∧ (Fld Z h n1 "gatherwick/maps/RedBlackTree$Node" "key" "Ljava/lang/Object;" (.ref x1)) ∧ (Fld Z h n1 "gatherwick/maps/RedBlackTree$Node" "value" "Ljava/lang/Object;" (.ref y1)) ∧ (Fld Z h n1 "gatherwick/maps/RedBlackTree$Node" "left" "Lgatherwick/maps/RedBlackTree$Node;" (.ref an)) ∧ (Fld Z h n1 "gatherwick/maps/RedBlackTree$Node" "right" "Lgatherwick/maps/RedBlackTree$Node;" vo) ∧ (Fld Z h n1 "gatherwick/maps/RedBlackTree$Node" "parent" "Lgatherwick/maps/RedBlackTree$Node;" .null) ∧ (Fld Z h n1 "gatherwick/maps/RedBlackTree$Node" "red" "Z" (.int (0 : Int32)))
theorem rmKOl (l : Launch) (Z : State) (a0 : Array Value) (hw : ∀ d ∈ tables_1, d.before a0 Z = true) (ws : List Jvm.Cond) (n1 : Addr) (an : Addr) (x1 : Addr) (y1 : Addr) (vo : Value) (xk : Addr) (xv : Addr) (h0 : Heap) (n0 : Nat) (Z0 : n0 ≤ h0.size) (E_an : Exa Z h0 an "gatherwick/maps/RedBlackTree$Node") (g_an : n0 ≤ an) (ne_an0 : an ≠ n1) (a_key : Fld Z h0 an "gatherwick/maps/RedBlackTree$Node" "key" "Ljava/lang/Object;" (.ref xk)) (a_value : Fld Z h0 an "gatherwick/maps/RedBlackTree$Node" "value" "Ljava/lang/Object;" (.ref xv)) (a_left : Fld Z h0 an "gatherwick/maps/RedBlackTree$Node" "left" "Lgatherwick/maps/RedBlackTree$Node;" .null) (a_right : Fld Z h0 an "gatherwick/maps/RedBlackTree$Node" "right" "Lgatherwick/maps/RedBlackTree$Node;" .null) (a_parent : Fld Z h0 an "gatherwick/maps/RedBlackTree$Node" "parent" "Lgatherwick/maps/RedBlackTree$Node;" (.ref n1)) (a_red : Fld Z h0 an "gatherwick/maps/RedBlackTree$Node" "red" "Z" (.int (1 : Int32))) (E_n1 : Exa Z h0 n1 "gatherwick/maps/RedBlackTree$Node") (g_n1 : n0 ≤ n1) (c_key : Fld Z h0 n1 "gatherwick/maps/RedBlackTree$Node" "key" "Ljava/lang/Object;" (.ref x1)) (c_value : Fld Z h0 n1 "gatherwick/maps/RedBlackTree$Node" "value" "Ljava/lang/Object;" (.ref y1)) (c_left : Fld Z h0 n1 "gatherwick/maps/RedBlackTree$Node" "left" "Lgatherwick/maps/RedBlackTree$Node;" .null) (c_right : Fld Z h0 n1 "gatherwick/maps/RedBlackTree$Node" "right" "Lgatherwick/maps/RedBlackTree$Node;" vo) (c_parent : Fld Z h0 n1 "gatherwick/maps/RedBlackTree$Node" "parent" "Lgatherwick/maps/RedBlackTree$Node;" .null) (c_red : Fld Z h0 n1 "gatherwick/maps/RedBlackTree$Node" "red" "Z" (.int (0 : Int32))) :
    MetFree l (⟨"gatherwick/maps/RedBlackTree", "link", "(Lgatherwick/maps/RedBlackTree$Node;Lgatherwick/maps/RedBlackTree$Node;Z)Lgatherwick/maps/RedBlackTree$Node;"⟩ : MethodName) (head1 (Jvm.Cond.code (⟨"gatherwick/maps/RedBlackTree", "link", "(Lgatherwick/maps/RedBlackTree$Node;Lgatherwick/maps/RedBlackTree$Node;Z)Lgatherwick/maps/RedBlackTree$Node;"⟩ : MethodName) prog_57_method_2_code 4 (some (.object "gatherwick/maps/RedBlackTree$Node")) :: ws) ({ frames := 2, cells := 0, slots := 0, locals := 28 } : Room)) (fun aA U => aA = #[(.ref n1), (.ref an), (.int (1 : Int32))] ∧ Z.Warmed39 U.vm ∧ U.heap = h0) (fun _ _ _ _ _ => True) (fun _ U o U' => ∃ v L, o = .returned v ∧ Q_rmKOl Z n1 an x1 y1 vo xk xv h0 n0 v U'.heap L ∧ FrameEnd U o U' L ({ frames := 2, cells := 0, slots := 0, locals := 28 } : Room).cells ({ frames := 2, cells := 0, slots := 0, locals := 28 } : Room).slots) := by
  refine MetFree.of_bodySF (plainFor_of_name pn_gatherwick_maps_RedBlackTree) hisR ?_
  intro p e s m args below meth c s₁ Bd hml0 hP hK
  obtain ⟨rfl, hZ, hh⟩ := hP
  have hx := Bd.exec
  have hby := Bd.bytes
  have hml : c.maxLocals = 4 := hml0
  have hown : s.vm.findClass "gatherwick/maps/RedBlackTree" = some m.cls := findClass_of_methodNamed Bd.named
  have hnm := (name_of_methodNamed Bd.named Bd.method).1
  have hret := Bd.returns
  have hlk : meth.locks = false := BodyLoose.notSynchronized Bd
  have X0 : Stand p l e ({ frames := 2, cells := 0, slots := 0, locals := 28 } : Room) s m #[(.ref n1), (.ref an), (.int (1 : Int32))] below meth c s₁ [] 0 0 := Stand.of_body Bd
  have e0 : s₁.heap = h0 := by rw [← hh, Bd.state]; rfl
  have N0 := Fr.nil n0
  suffices hgo : Go p e below s ({ frames := 2, cells := 0, slots := 0, locals := 28 } : Room).cells ({ frames := 2, cells := 0, slots := 0, locals := 28 } : Room).slots (Q_rmKOl Z n1 an x1 y1 vo xk xv h0 n0) s₁ (mkF m 0 #[.val (.ref n1), .val (.ref an), .val (.int (1 : Int32)), .unset] []) from hgo.enter (ef_rmKOl m n1 an)
  refine Go.step (fun _ k => XS.aloadN X0.here hx rfl (hb hby d25_0) rfl rfl k) ?_
  obtain ⟨T319, X319, e319, st319⟩ := getF X0 hx hZ hown (host := "") (Or.inl (own_w hw 146 rfl)) Via.refl e0 a_parent (g := (mkF m 1 #[.val (.ref n1), .val (.ref an), .val (.int (1 : Int32)), .unset] [(.ref an)])) rfl rfl (hb hby d25_1)
  refine Go.step st319 ?_
  show Go _ _ _ _ _ _ _ T319 (mkF m 4 #[.val (.ref n1), .val (.ref an), .val (.int (1 : Int32)), .unset] [(.ref n1)])
  refine Go.step (fun _ k => XS.astoreN X319.here hx rfl (hb hby d25_4) rfl rfl (l' := #[.val (.ref n1), .val (.ref an), .val (.int (1 : Int32)), .val (.ref n1)]) rfl k) ?_
  show Go _ _ _ _ _ _ _ T319 (mkF m 5 #[.val (.ref n1), .val (.ref an), .val (.int (1 : Int32)), .val (.ref n1)] [])
  refine Go.step (fun _ k => XS.aloadN X319.here hx rfl (hb hby d25_5) rfl rfl k) ?_
  refine Go.step (fun _ k => XS.ifnonnullYes X319.here hx rfl (pc0 := 6) (pc' := 14) rfl (hb hby d25_6) rfl (by decide) (by decide) k) ?_
  show Go _ _ _ _ _ _ _ T319 (mkF m 14 #[.val (.ref n1), .val (.ref an), .val (.int (1 : Int32)), .val (.ref n1)] [])
  refine Go.step (fun _ k => XS.iloadN X319.here hx rfl (hb hby d25_14) rfl k) ?_
  have hc15_320 : ¬ ((1 : Int32) = (0 : Int32)) := (by decide)
  refine Go.step (fun _ k => XS.ifNo X319.here hx rfl (hb hby d25_15) rfl ((if0 _ _).trans (feq hc15_320).1) k) ?_
  show Go _ _ _ _ _ _ _ T319 (mkF m 18 #[.val (.ref n1), .val (.ref an), .val (.int (1 : Int32)), .val (.ref n1)] [])
  refine Go.step (fun _ k => XS.aloadN X319.here hx rfl (hb hby d25_18) rfl rfl k) ?_
  refine Go.step (fun _ k => XS.aloadN X319.here hx rfl (hb hby d25_19) rfl rfl k) ?_
  obtain ⟨T321, h321, X321, e321, W321, st321⟩ := putF X319 hx hZ hown (host := "") (Or.inl (own_w hw 180 rfl)) Via.refl e319 c_left E_n1 (Or.inl (own_w hw 179 rfl)) (own_w hw 119 rfl) (ty := (.object "gatherwick/maps/RedBlackTree$Node")) (by decide) rfl rfl (g := (mkF m 20 #[.val (.ref n1), .val (.ref an), .val (.int (1 : Int32)), .val (.ref n1)] [(.ref an), (.ref n1)])) rfl rfl (hb hby d25_20)
  refine Go.step st321 ?_
  have Fw321 := c_left.same W321
  have N321 := Fr.snoc X321 N0 g_n1
  have Z321 : n0 ≤ h321.size := Nat.le_trans Z0 (Keep.of_wr W321).1
  have KK321 := (Keep.refl h0 [n1]).wr W321 (Or.inl (List.mem_of_getElem? (i := 0) rfl))
  show Go _ _ _ _ _ _ _ T321 (mkF m 23 #[.val (.ref n1), .val (.ref an), .val (.int (1 : Int32)), .val (.ref n1)] [])
  refine Go.step (fun _ k => XS.goto X321.here hx rfl (pc0 := 23) (pc' := 31) rfl (hb hby d25_23) (by decide) (by decide) k) ?_
  show Go _ _ _ _ _ _ _ T321 (mkF m 31 #[.val (.ref n1), .val (.ref an), .val (.int (1 : Int32)), .val (.ref n1)] [])
  refine Go.step (fun _ k => XS.aloadN X321.here hx rfl (hb hby d25_31) rfl rfl k) ?_
  refine Go.step (fun _ k => XS.aloadN X321.here hx rfl (hb hby d25_32) rfl rfl k) ?_
  have f323 := (E_n1.wr W321)
  have f324 := (c_key.other W321 (Or.inr (slot_ne (a0 := a0) (C := "gatherwick/maps/RedBlackTree$Node") (Or.inr (own_w hw 135 rfl)) (Or.inl (own_w hw 179 rfl)) (by decide) (t := (.object "java/lang/Object")) (t' := (.object "gatherwick/maps/RedBlackTree$Node")) (by decide) (by decide))))
  have f325 := (c_value.other W321 (Or.inr (slot_ne (a0 := a0) (C := "gatherwick/maps/RedBlackTree$Node") (Or.inl (own_w hw 137 rfl)) (Or.inl (own_w hw 179 rfl)) (by decide) (t := (.object "java/lang/Object")) (t' := (.object "gatherwick/maps/RedBlackTree$Node")) (by decide) (by decide))))
  have f326 := (c_right.other W321 (Or.inr (slot_ne (a0 := a0) (C := "gatherwick/maps/RedBlackTree$Node") (Or.inl (own_w hw 176 rfl)) (Or.inl (own_w hw 179 rfl)) (by decide) (t := (.object "gatherwick/maps/RedBlackTree$Node")) (t' := (.object "gatherwick/maps/RedBlackTree$Node")) (by decide) (by decide))))
  have f327 := (c_parent.other W321 (Or.inr (slot_ne (a0 := a0) (C := "gatherwick/maps/RedBlackTree$Node") (Or.inl (own_w hw 139 rfl)) (Or.inl (own_w hw 179 rfl)) (by decide) (t := (.object "gatherwick/maps/RedBlackTree$Node")) (t' := (.object "gatherwick/maps/RedBlackTree$Node")) (by decide) (by decide))))
  have f328 := (c_red.other W321 (Or.inr (slot_ne (a0 := a0) (C := "gatherwick/maps/RedBlackTree$Node") (Or.inl (own_w hw 133 rfl)) (Or.inl (own_w hw 179 rfl)) (by decide) (t := .boolean) (t' := (.object "gatherwick/maps/RedBlackTree$Node")) (by decide) (by decide))))
  have f329 := (a_parent.other W321 (Or.inl ne_an0))
  obtain ⟨_, _, ⟨T322, L322, k322, n322⟩, -, X322, ⟨Lc322, hQ322, l322, y322, z322⟩, st322⟩ := Jvm.LawKit.callS X321 hx (y := (⟨"gatherwick/maps/RedBlackTree", "rebalanceAfterLink", "(Lgatherwick/maps/RedBlackTree$Node;Lgatherwick/maps/RedBlackTree$Node;)Lgatherwick/maps/RedBlackTree$Node;"⟩ : MethodName)) hown (mvT hZ (own_w hw 147 rfl)) (mvT hZ (own_w hw 148 rfl)) (mvT hZ (own_w hw 144 rfl)) (mvT hZ (own_w hw 149 rfl)) (by decide) (backOf (W := 0) (rmBol l Z a0 hw [] n1 an x1 y1 vo h321 n0 Z321 f323 g_n1 f324 f325 Fw321 f326 f327 f328 f329) hZ (own_w hw 149 rfl) (own_w hw 144 rfl) (by decide) (by decide)) (g := (mkF m 33 #[.val (.ref n1), .val (.ref an), .val (.int (1 : Int32)), .val (.ref n1)] [(.ref an), (.ref n1)])) rfl (by rw [hml]; rfl) (argsL := [(.ref n1), (.ref an)]) (rest := []) (lenOf pd__Lgatherwick_maps_RedBlackTree_Node_Lgatherwick_maps_RedBlackTree_Node__Lgatherwick_maps_RedBlackTree_Node_ rfl) rfl (by show 2 * 0 + _ ≤ _; exact Nat.le_of_eq rfl) (hb hby d25_33) (fun _ _ => ⟨rfl, e321, (by decide : 0 + 0 ≤ _), (by decide : 0 + 0 ≤ _)⟩)
  dsimp only [Pt.U, Pt.locs, Pt.cells, Pt.slots] at X322 l322 y322 z322 st322 hQ322
  subst l322 y322 z322
  obtain ⟨h322, e322⟩ : ∃ h, T322.heap = h := ⟨_, rfl⟩
  rw [e322] at hQ322
  obtain ⟨rfl, Nq322, Kq322, d_key_322, d_value_322, d_left_322, d_right_322, d_parent_322, d_red_322⟩ := hQ322
  have N322 := Fr.app N321 Nq322
  have Z322 : n0 ≤ h322.size := Nat.le_trans Z321 Kq322.1
  have KK322 := KK321.trans Kq322 (allS (Or.inl (List.mem_of_getElem? (i := 0) rfl)) all0)
  refine Go.step st322 ?_
  show Go _ _ _ _ _ _ _ T322 (mkF m 36 #[.val (.ref n1), .val (.ref an), .val (.int (1 : Int32)), .val (.ref n1)] [(.ref n1)])
  exact Go.retA X322 hx hret hlk rfl rfl (hb hby d25_36) e322 (by decide) (by decide) ⟨rfl, N322, KK322, d_key_322, d_value_322, d_left_322, d_right_322, d_parent_322, d_red_322⟩
theorem ef_rmMOl (m : MethodId) (am : Addr) (ap : Addr) (ak : Addr) (av : Addr) : entryFrame m #[(.ref am), (.ref ap), (.ref ak), (.ref av)] 4 = mkF m 0 #[.val (.ref am), .val (.ref ap), .val (.ref ak), .val (.ref av)] [] := by first | (simp [entryFrame, mkF, argsToLocals, Value.category]; done) | rfl
def Q_rmMOl (Z : State) (am : Addr) (ap : Addr) (ak : Addr) (av : Addr) (sz : Int32) (mc : Int32) (n1 : Addr) (x1 : Addr) (y1 : Addr) (vo : Value) (h0 : Heap) (n0 : Nat) (v : Option Value) (h : Heap) (L : List Loc) : Prop := ∃ an : Addr, (v = none) ∧ (Fr n0 L) ∧ (Keep h0 h [am, n1]) ∧ (h0.size ≤ an) ∧ (Exa Z h an "gatherwick/maps/RedBlackTree$Node") ∧ (Fld Z h an "gatherwick/maps/RedBlackTree$Node" "key" "Ljava/lang/Object;" (.ref ak)) ∧ (Fld Z h an "gatherwick/maps/RedBlackTree$Node" "value" "Ljava/lang/Object;" (.ref av)) ∧ (Fld Z h an "gatherwick/maps/RedBlackTree$Node" "left" "Lgatherwick/maps/RedBlackTree$Node;" .null) ∧ (Fld Z h an "gatherwick/maps/RedBlackTree$Node" "right" "Lgatherwick/maps/RedBlackTree$Node;" .null) ∧ (Fld Z h an "gatherwick/maps/RedBlackTree$Node" "parent" "Lgatherwick/maps/RedBlackTree$Node;" (.ref n1)) ∧ (Fld Z h an "gatherwick/maps/RedBlackTree$Node" "red" "Z" (.int (1 : Int32))) ∧ (Fld Z h n1 "gatherwick/maps/RedBlackTree$Node" "key" "Ljava/lang/Object;" (.ref x1)) ∧ (Fld Z h n1 "gatherwick/maps/RedBlackTree$Node" "value" "Ljava/lang/Object;" (.ref y1)) ∧ (Fld Z h n1 "gatherwick/maps/RedBlackTree$Node" "left" "Lgatherwick/maps/RedBlackTree$Node;" (.ref an)) ∧ (Fld Z h n1 "gatherwick/maps/RedBlackTree$Node" "right" "Lgatherwick/maps/RedBlackTree$Node;" vo) ∧ (Fld Z h n1 "gatherwick/maps/RedBlackTree$Node" "parent" "Lgatherwick/maps/RedBlackTree$Node;" .null) ∧ (Fld Z h n1 "gatherwick/maps/RedBlackTree$Node" "red" "Z" (.int (0 : Int32))) ∧ (Fld Z h am "gatherwick/maps/GwTreeMap" "comparator" "Ljava/util/Comparator;" .null) ∧ (Fld Z h am "gatherwick/maps/GwTreeMap" "root" "Lgatherwick/maps/RedBlackTree$Node;" (.ref n1)) ∧ (Fld Z h am "gatherwick/maps/GwTreeMap" "size" "I" (.int (sz + (1 : Int32)))) ∧ (Fld Z h am "gatherwick/maps/GwTreeMap" "modCount" "I" (.int (mc + (1 : Int32))))
theorem rmMOl (l : Launch) (Z : State) (a0 : Array Value) (hw : ∀ d ∈ tables_1, d.before a0 Z = true) (ws : List Jvm.Cond) (am : Addr) (ap : Addr) (ak : Addr) (av : Addr) (sz : Int32) (mc : Int32) (n1 : Addr) (x1 : Addr) (y1 : Addr) (vo : Value) (h0 : Heap) (n0 : Nat) (Z0 : n0 ≤ h0.size) (Em : Exa Z h0 am "gatherwick/maps/GwTreeMap") (gm : n0 ≤ am) (m_comparator : Fld Z h0 am "gatherwick/maps/GwTreeMap" "comparator" "Ljava/util/Comparator;" .null) (m_root : Fld Z h0 am "gatherwick/maps/GwTreeMap" "root" "Lgatherwick/maps/RedBlackTree$Node;" (.ref n1)) (m_size : Fld Z h0 am "gatherwick/maps/GwTreeMap" "size" "I" (.int sz)) (m_modCount : Fld Z h0 am "gatherwick/maps/GwTreeMap" "modCount" "I" (.int mc)) (Ep : Exa Z h0 ap "gatherwick/maps/GwTreeMap$Place") (P_p : Fld Z h0 ap "gatherwick/maps/GwTreeMap$Place" "parent" "Lgatherwick/maps/RedBlackTree$Node;" (.ref n1)) (P_l : Fld Z h0 ap "gatherwick/maps/GwTreeMap$Place" "left" "Z" (.int (1 : Int32))) (hz : ¬ (sz = (2147483639 : Int32))) (E_n1 : Exa Z h0 n1 "gatherwick/maps/RedBlackTree$Node") (g_n1 : n0 ≤ n1) (c_key : Fld Z h0 n1 "gatherwick/maps/RedBlackTree$Node" "key" "Ljava/lang/Object;" (.ref x1)) (c_value : Fld Z h0 n1 "gatherwick/maps/RedBlackTree$Node" "value" "Ljava/lang/Object;" (.ref y1)) (c_left : Fld Z h0 n1 "gatherwick/maps/RedBlackTree$Node" "left" "Lgatherwick/maps/RedBlackTree$Node;" .null) (c_right : Fld Z h0 n1 "gatherwick/maps/RedBlackTree$Node" "right" "Lgatherwick/maps/RedBlackTree$Node;" vo) (c_parent : Fld Z h0 n1 "gatherwick/maps/RedBlackTree$Node" "parent" "Lgatherwick/maps/RedBlackTree$Node;" .null) (c_red : Fld Z h0 n1 "gatherwick/maps/RedBlackTree$Node" "red" "Z" (.int (0 : Int32))) :
    MetFree l (⟨"gatherwick/maps/GwTreeMap", "link", "(Lgatherwick/maps/GwTreeMap$Place;Ljava/lang/Object;Ljava/lang/Object;)V"⟩ : MethodName) (head1 (Jvm.Cond.code (⟨"gatherwick/maps/GwTreeMap", "link", "(Lgatherwick/maps/GwTreeMap$Place;Ljava/lang/Object;Ljava/lang/Object;)V"⟩ : MethodName) prog_46_method_92_code 4 none :: ws) ({ frames := 3, cells := 1, slots := 6, locals := 44 } : Room)) (fun aA U => aA = #[(.ref am), (.ref ap), (.ref ak), (.ref av)] ∧ Z.Warmed39 U.vm ∧ U.heap = h0) (fun _ _ _ _ _ => True) (fun _ U o U' => ∃ v L, o = .returned v ∧ Q_rmMOl Z am ap ak av sz mc n1 x1 y1 vo h0 n0 v U'.heap L ∧ FrameEnd U o U' L ({ frames := 3, cells := 1, slots := 6, locals := 44 } : Room).cells ({ frames := 3, cells := 1, slots := 6, locals := 44 } : Room).slots) := by
  refine MetFree.of_bodySF (plainFor_of_name pn_gatherwick_maps_GwTreeMap) hisR ?_
  intro p e s m args below meth c s₁ Bd hml0 hP hK
  obtain ⟨rfl, hZ, hh⟩ := hP
  have hx := Bd.exec
  have hby := Bd.bytes
  have hml : c.maxLocals = 4 := hml0
  have hown : s.vm.findClass "gatherwick/maps/GwTreeMap" = some m.cls := findClass_of_methodNamed Bd.named
  have hnm := (name_of_methodNamed Bd.named Bd.method).1
  have hret := Bd.returns
  have hlk : meth.locks = false := BodyLoose.notSynchronized Bd
  have X0 : Stand p l e ({ frames := 3, cells := 1, slots := 6, locals := 44 } : Room) s m #[(.ref am), (.ref ap), (.ref ak), (.ref av)] below meth c s₁ [] 0 0 := Stand.of_body Bd
  have e0 : s₁.heap = h0 := by rw [← hh, Bd.state]; rfl
  have N0 := Fr.nil n0
  suffices hgo : Go p e below s ({ frames := 3, cells := 1, slots := 6, locals := 44 } : Room).cells ({ frames := 3, cells := 1, slots := 6, locals := 44 } : Room).slots (Q_rmMOl Z am ap ak av sz mc n1 x1 y1 vo h0 n0) s₁ (mkF m 0 #[.val (.ref am), .val (.ref ap), .val (.ref ak), .val (.ref av)] []) from hgo.enter (ef_rmMOl m am ap ak av)
  refine Go.step (fun _ k => XS.aloadN X0.here hx rfl (hb hby d21_0) rfl rfl k) ?_
  obtain ⟨T330, X330, e330, st330⟩ := getF X0 hx hZ hown (host := "") (Or.inl (own_w hw 21 rfl)) Via.refl e0 m_size (g := (mkF m 1 #[.val (.ref am), .val (.ref ap), .val (.ref ak), .val (.ref av)] [(.ref am)])) rfl rfl (hb hby d21_1)
  refine Go.step st330 ?_
  show Go _ _ _ _ _ _ _ T330 (mkF m 4 #[.val (.ref am), .val (.ref ap), .val (.ref ak), .val (.ref av)] [(.int sz)])
  obtain ⟨_, _, ⟨T331, L331, k331, n331⟩, -, X331, ⟨Lc331, hQ331, l331, y331, z331⟩, st331⟩ := Jvm.LawKit.callS X330 hx (y := (⟨"gatherwick/maps/GwTreeMap", "checkRoom", "(I)V"⟩ : MethodName)) hown (mvT hZ (own_w hw 114 rfl)) (mvT hZ (own_w hw 115 rfl)) (mvT hZ (own_w hw 2 rfl)) (mvT hZ (own_w hw 116 rfl)) (by decide) (backOf (W := 0) (rmCr l Z a0 hw [] sz h0 n0 Z0 hz) hZ (own_w hw 116 rfl) (own_w hw 2 rfl) (by decide) (by decide)) (g := (mkF m 4 #[.val (.ref am), .val (.ref ap), .val (.ref ak), .val (.ref av)] [(.int sz)])) rfl (by rw [hml]; rfl) (argsL := [(.int sz)]) (rest := []) (lenOf pd__I_V rfl) rfl (by show 2 * 0 + _ ≤ _; exact Nat.le_of_eq rfl) (hb hby d21_4) (fun _ _ => ⟨rfl, e330, (by decide : 0 + 0 ≤ _), (by decide : 0 + 0 ≤ _)⟩)
  dsimp only [Pt.U, Pt.locs, Pt.cells, Pt.slots] at X331 l331 y331 z331 st331 hQ331
  subst l331 y331 z331
  obtain ⟨h331, e331⟩ : ∃ h, T331.heap = h := ⟨_, rfl⟩
  rw [e331] at hQ331
  obtain ⟨rfl, Nq331, hs331⟩ := hQ331
  have N331 := Fr.app N0 Nq331
  rw [hs331] at e331
  refine Go.step st331 ?_
  show Go _ _ _ _ _ _ _ T331 (mkF m 7 #[.val (.ref am), .val (.ref ap), .val (.ref ak), .val (.ref av)] [])
  refine Go.step (fun _ k => XS.aloadN X331.here hx rfl (hb hby d21_7) rfl rfl k) ?_
  refine Go.step (fun _ k => XS.aloadN X331.here hx rfl (hb hby d21_8) rfl rfl k) ?_
  obtain ⟨T332, X332, e332, st332⟩ := getF X331 hx hZ hown (host := "") (Or.inl (own_w hw 52 rfl)) Via.refl e331 m_root (g := (mkF m 9 #[.val (.ref am), .val (.ref ap), .val (.ref ak), .val (.ref av)] [(.ref am), (.ref am)])) rfl rfl (hb hby d21_9)
  refine Go.step st332 ?_
  show Go _ _ _ _ _ _ _ T332 (mkF m 12 #[.val (.ref am), .val (.ref ap), .val (.ref ak), .val (.ref av)] [(.ref n1), (.ref am)])
  obtain ⟨T333, h333, X333, e333, E333, A333, D333, -, st333⟩ := newO X332 hx hZ hown (own_w hw 118 rfl) (own_w hw 119 rfl) (own_w hw 120 rfl) e332 (g := (mkF m 12 #[.val (.ref am), .val (.ref ap), .val (.ref ak), .val (.ref av)] [(.ref n1), (.ref am)])) rfl (hb hby d21_12) (by decide) (by decide)
  obtain ⟨b333, g333⟩ : ∃ z, z = h0.size := ⟨_, rfl⟩
  rw [← g333] at A333 D333 st333
  refine Go.step st333 ?_
  have g_b333 : n0 ≤ b333 := Nat.le_trans Z0 (Nat.le_of_eq g333.symm)
  have sz_b333 : h0.size ≤ b333 := Nat.le_trans (Keep.refl h0 [am, n1]).1 (Nat.le_of_eq g333.symm)
  have ne_am_b333 : am ≠ b333 := Nat.ne_of_lt (Nat.lt_of_lt_of_le Em.lt (Nat.le_of_eq g333.symm))
  have ne_ap_b333 : ap ≠ b333 := Nat.ne_of_lt (Nat.lt_of_lt_of_le Ep.lt (Nat.le_of_eq g333.symm))
  have ne_n1_b333 : n1 ≠ b333 := Nat.ne_of_lt (Nat.lt_of_lt_of_le E_n1.lt (Nat.le_of_eq g333.symm))
  have Z333 : n0 ≤ h333.size := Nat.le_trans Z0 E333.1
  have KK333 := (Keep.refl h0 [am, n1]).ext E333
  have Fred_333 : Fld Z h333 b333 "gatherwick/maps/RedBlackTree$Node" "red" "Z" (.int (0 : Int32)) := D333 (Or.inl (own_w hw 133 rfl)) (ty := .boolean) (by decide)
  have Fkey_333 : Fld Z h333 b333 "gatherwick/maps/RedBlackTree$Node" "key" "Ljava/lang/Object;" .null := D333 (Or.inr (own_w hw 135 rfl)) (ty := (.object "java/lang/Object")) (by decide)
  have Fvalue_333 : Fld Z h333 b333 "gatherwick/maps/RedBlackTree$Node" "value" "Ljava/lang/Object;" .null := D333 (Or.inl (own_w hw 137 rfl)) (ty := (.object "java/lang/Object")) (by decide)
  have Fparent_333 : Fld Z h333 b333 "gatherwick/maps/RedBlackTree$Node" "parent" "Lgatherwick/maps/RedBlackTree$Node;" .null := D333 (Or.inl (own_w hw 139 rfl)) (ty := (.object "gatherwick/maps/RedBlackTree$Node")) (by decide)
  have Fright_333 : Fld Z h333 b333 "gatherwick/maps/RedBlackTree$Node" "right" "Lgatherwick/maps/RedBlackTree$Node;" .null := D333 (Or.inl (own_w hw 176 rfl)) (ty := (.object "gatherwick/maps/RedBlackTree$Node")) (by decide)
  have Fleft_333 : Fld Z h333 b333 "gatherwick/maps/RedBlackTree$Node" "left" "Lgatherwick/maps/RedBlackTree$Node;" .null := D333 (Or.inl (own_w hw 179 rfl)) (ty := (.object "gatherwick/maps/RedBlackTree$Node")) (by decide)
  show Go _ _ _ _ _ _ _ T333 (mkF m 15 #[.val (.ref am), .val (.ref ap), .val (.ref ak), .val (.ref av)] [(.ref b333), (.ref n1), (.ref am)])
  refine Go.step (fun _ k => XS.dup X333.here hx rfl (hb hby d21_15) rfl rfl k) ?_
  refine Go.step (fun _ k => XS.aloadN X333.here hx rfl (hb hby d21_16) rfl rfl k) ?_
  refine Go.step (fun _ k => XS.aloadN X333.here hx rfl (hb hby d21_17) rfl rfl k) ?_
  refine Go.step (fun _ k => XS.aloadN X333.here hx rfl (hb hby d21_18) rfl rfl k) ?_
  have f334 := (P_p.ext E333)
  obtain ⟨T335, X335, e335, st335⟩ := getF X333 hx hZ hown (host := "") (Or.inl (own_w hw 121 rfl)) Via.refl e333 f334 (g := (mkF m 19 #[.val (.ref am), .val (.ref ap), .val (.ref ak), .val (.ref av)] [(.ref ap), (.ref av), (.ref ak), (.ref b333), (.ref b333), (.ref n1), (.ref am)])) rfl rfl (hb hby d21_19)
  refine Go.step st335 ?_
  show Go _ _ _ _ _ _ _ T335 (mkF m 22 #[.val (.ref am), .val (.ref ap), .val (.ref ak), .val (.ref av)] [(.ref n1), (.ref av), (.ref ak), (.ref b333), (.ref b333), (.ref n1), (.ref am)])
  obtain ⟨_, _, ⟨T336, L336, k336, n336⟩, -, X336, ⟨Lc336, hQ336, l336, y336, z336⟩, st336⟩ := X335.specialBack hx (y := (⟨"gatherwick/maps/RedBlackTree$Node", "<init>", "(Ljava/lang/Object;Ljava/lang/Object;Lgatherwick/maps/RedBlackTree$Node;)V"⟩ : MethodName)) rfl hown (mvT hZ (own_w hw 123 rfl)) (mvT hZ (own_w hw 124 rfl)) (mvT hZ (own_w hw 125 rfl)) (by decide) (backOf (W := 3) (rmNi l Z a0 hw [] b333 ak av (.ref n1) h333 n0 Z333 A333 g_b333 Fkey_333 Fvalue_333 Fleft_333 Fright_333 Fparent_333 Fred_333 rfl) hZ (own_w hw 125 rfl) (own_w hw 120 rfl) (by decide) (by decide)) (g := (mkF m 22 #[.val (.ref am), .val (.ref ap), .val (.ref ak), .val (.ref av)] [(.ref n1), (.ref av), (.ref ak), (.ref b333), (.ref b333), (.ref n1), (.ref am)])) rfl (by rw [hml]; rfl) (Steps.refl _) (a := b333) (argsL := [(.ref ak), (.ref av), (.ref n1)]) (rest := [(.ref b333), (.ref n1), (.ref am)]) (lenOf pd__Ljava_lang_Object_Ljava_lang_Object_Lgatherwick_maps_RedBlackTree_Node__V rfl) rfl (by show 2 * 0 + _ ≤ _; exact Nat.le_of_eq rfl) (hb hby d21_22) (fun _ _ => ⟨rfl, e335, (by decide : 1 + 0 ≤ _), (by decide : 6 + 0 ≤ _)⟩)
  dsimp only [Pt.U, Pt.locs, Pt.cells, Pt.slots] at X336 l336 y336 z336 st336 hQ336
  subst l336 y336 z336
  obtain ⟨h336, e336⟩ : ∃ h, T336.heap = h := ⟨_, rfl⟩
  rw [e336] at hQ336
  obtain ⟨rfl, Nq336, Kq336, b_key_336, b_value_336, b_left_336, b_right_336, b_parent_336, b_red_336⟩ := hQ336
  have N336 := Fr.app N331 Nq336
  have Z336 : n0 ≤ h336.size := Nat.le_trans Z333 Kq336.1
  have KK336 := KK333.trans Kq336 (allS (Or.inr sz_b333) all0)
  refine Go.trans st336 ?_
  show Go _ _ _ _ _ _ _ T336 (mkF m 25 #[.val (.ref am), .val (.ref ap), .val (.ref ak), .val (.ref av)] [(.ref b333), (.ref n1), (.ref am)])
  refine Go.step (fun _ k => XS.aloadN X336.here hx rfl (hb hby d21_25) rfl rfl k) ?_
  have f337 := ((P_l.ext E333).keep Kq336 (ninS ne_ap_b333 nin0))
  obtain ⟨T338, X338, e338, st338⟩ := getF X336 hx hZ hown (host := "") (Or.inl (own_w hw 140 rfl)) Via.refl e336 f337 (g := (mkF m 26 #[.val (.ref am), .val (.ref ap), .val (.ref ak), .val (.ref av)] [(.ref ap), (.ref b333), (.ref n1), (.ref am)])) rfl rfl (hb hby d21_26)
  refine Go.step st338 ?_
  show Go _ _ _ _ _ _ _ T338 (mkF m 29 #[.val (.ref am), .val (.ref ap), .val (.ref ak), .val (.ref av)] [(.int (1 : Int32)), (.ref b333), (.ref n1), (.ref am)])
  have f340 := (A333.keep Kq336)
  have f341 := ((E_n1.ext E333).keep Kq336)
  have f342 := ((c_key.ext E333).keep Kq336 (ninS ne_n1_b333 nin0))
  have f343 := ((c_value.ext E333).keep Kq336 (ninS ne_n1_b333 nin0))
  have f344 := ((c_left.ext E333).keep Kq336 (ninS ne_n1_b333 nin0))
  have f345 := ((c_right.ext E333).keep Kq336 (ninS ne_n1_b333 nin0))
  have f346 := ((c_parent.ext E333).keep Kq336 (ninS ne_n1_b333 nin0))
  have f347 := ((c_red.ext E333).keep Kq336 (ninS ne_n1_b333 nin0))
  obtain ⟨_, _, ⟨T339, L339, k339, n339⟩, -, X339, ⟨Lc339, hQ339, l339, y339, z339⟩, st339⟩ := Jvm.LawKit.callS X338 hx (y := (⟨"gatherwick/maps/RedBlackTree", "link", "(Lgatherwick/maps/RedBlackTree$Node;Lgatherwick/maps/RedBlackTree$Node;Z)Lgatherwick/maps/RedBlackTree$Node;"⟩ : MethodName)) hown (mvT hZ (own_w hw 142 rfl)) (mvT hZ (own_w hw 143 rfl)) (mvT hZ (own_w hw 144 rfl)) (mvT hZ (own_w hw 145 rfl)) (by decide) (backOf (W := 1) (rmKOl l Z a0 hw [] n1 b333 x1 y1 vo ak av h336 n0 Z336 f340 g_b333 (Ne.symm ne_n1_b333) b_key_336 b_value_336 b_left_336 b_right_336 b_parent_336 b_red_336 f341 g_n1 f342 f343 f344 f345 f346 f347) hZ (own_w hw 145 rfl) (own_w hw 144 rfl) (by decide) (by decide)) (g := (mkF m 29 #[.val (.ref am), .val (.ref ap), .val (.ref ak), .val (.ref av)] [(.int (1 : Int32)), (.ref b333), (.ref n1), (.ref am)])) rfl (by rw [hml]; rfl) (argsL := [(.ref n1), (.ref b333), (.int (1 : Int32))]) (rest := [(.ref am)]) (lenOf pd__Lgatherwick_maps_RedBlackTree_Node_Lgatherwick_maps_RedBlackTree_Node_Z_Lgatherwick_maps_RedBlackTree_Node_ rfl) rfl (by show 2 * 0 + _ ≤ _; exact Nat.le_of_eq rfl) (hb hby d21_29) (fun _ _ => ⟨rfl, e338, (by decide : 1 + 0 ≤ _), (by decide : 6 + 0 ≤ _)⟩)
  dsimp only [Pt.U, Pt.locs, Pt.cells, Pt.slots] at X339 l339 y339 z339 st339 hQ339
  subst l339 y339 z339
  obtain ⟨h339, e339⟩ : ∃ h, T339.heap = h := ⟨_, rfl⟩
  rw [e339] at hQ339
  obtain ⟨rfl, Nq339, Kq339, d_key_339, d_value_339, d_left_339, d_right_339, d_parent_339, d_red_339⟩ := hQ339
  have N339 := Fr.app N336 Nq339
  have Z339 : n0 ≤ h339.size := Nat.le_trans Z336 Kq339.1
  have KK339 := KK336.trans Kq339 (allS (Or.inl (List.mem_of_getElem? (i := 1) rfl)) all0)
  refine Go.step st339 ?_
  show Go _ _ _ _ _ _ _ T339 (mkF m 32 #[.val (.ref am), .val (.ref ap), .val (.ref ak), .val (.ref av)] [(.ref n1), (.ref am)])
  have f348 := (((Em.ext E333).keep Kq336).keep Kq339)
  have f349 := (f341.keep Kq339)
  have nx350 : am ≠ n1 := Exa.ne f348 f349 (by decide)
  have f351 := (((m_root.ext E333).keep Kq336 (ninS ne_am_b333 nin0)).keep Kq339 (ninS nx350 nin0))
  obtain ⟨T352, h352, X352, e352, W352, st352⟩ := putF X339 hx hZ hown (host := "") (Or.inl (own_w hw 52 rfl)) Via.refl e339 f351 f348 (Or.inl (own_w hw 53 rfl)) (own_w hw 1 rfl) (ty := (.object "gatherwick/maps/RedBlackTree$Node")) (by decide) rfl rfl (g := (mkF m 32 #[.val (.ref am), .val (.ref ap), .val (.ref ak), .val (.ref av)] [(.ref n1), (.ref am)])) rfl rfl (hb hby d21_32)
  refine Go.step st352 ?_
  have Fw352 := f351.same W352
  have N352 := Fr.snoc X352 N339 gm
  have Z352 : n0 ≤ h352.size := Nat.le_trans Z339 (Keep.of_wr W352).1
  have KK352 := KK339.wr W352 (Or.inl (List.mem_of_getElem? (i := 0) rfl))
  show Go _ _ _ _ _ _ _ T352 (mkF m 35 #[.val (.ref am), .val (.ref ap), .val (.ref ak), .val (.ref av)] [])
  refine Go.step (fun _ k => XS.aloadN X352.here hx rfl (hb hby d21_35) rfl rfl k) ?_
  refine Go.step (fun _ k => XS.dup X352.here hx rfl (hb hby d21_36) rfl rfl k) ?_
  have f353 := ((((m_size.ext E333).keep Kq336 (ninS ne_am_b333 nin0)).keep Kq339 (ninS nx350 nin0)).other W352 (Or.inr (slot_ne (a0 := a0) (C := "gatherwick/maps/GwTreeMap") (Or.inl (own_w hw 22 rfl)) (Or.inl (own_w hw 53 rfl)) (by decide) (t := .int) (t' := (.object "gatherwick/maps/RedBlackTree$Node")) (by decide) (by decide))))
  obtain ⟨T354, X354, e354, st354⟩ := getF X352 hx hZ hown (host := "") (Or.inl (own_w hw 21 rfl)) Via.refl e352 f353 (g := (mkF m 37 #[.val (.ref am), .val (.ref ap), .val (.ref ak), .val (.ref av)] [(.ref am), (.ref am)])) rfl rfl (hb hby d21_37)
  refine Go.step st354 ?_
  show Go _ _ _ _ _ _ _ T354 (mkF m 40 #[.val (.ref am), .val (.ref ap), .val (.ref ak), .val (.ref av)] [(.int sz), (.ref am)])
  refine Go.step (fun _ k => XS.iconst X354.here hx rfl (hb hby d21_40) k) ?_
  refine Go.step (fun _ k => XS.iadd X354.here hx rfl (hb hby d21_41) rfl k) ?_
  have f355 := (f348.wr W352)
  obtain ⟨T356, h356, X356, e356, W356, st356⟩ := putF X354 hx hZ hown (host := "") (Or.inl (own_w hw 21 rfl)) Via.refl e354 f353 f355 (Or.inl (own_w hw 22 rfl)) (own_w hw 1 rfl) (ty := .int) (by decide) rfl rfl (g := (mkF m 42 #[.val (.ref am), .val (.ref ap), .val (.ref ak), .val (.ref av)] [(.int (sz + (1 : Int32))), (.ref am)])) rfl rfl (hb hby d21_42)
  refine Go.step st356 ?_
  have Fw356 := f353.same W356
  have N356 := Fr.snoc X356 N352 gm
  have Z356 : n0 ≤ h356.size := Nat.le_trans Z352 (Keep.of_wr W356).1
  have KK356 := KK352.wr W356 (Or.inl (List.mem_of_getElem? (i := 0) rfl))
  show Go _ _ _ _ _ _ _ T356 (mkF m 45 #[.val (.ref am), .val (.ref ap), .val (.ref ak), .val (.ref av)] [])
  refine Go.step (fun _ k => XS.aloadN X356.here hx rfl (hb hby d21_45) rfl rfl k) ?_
  refine Go.step (fun _ k => XS.dup X356.here hx rfl (hb hby d21_46) rfl rfl k) ?_
  have f357 := (((((m_modCount.ext E333).keep Kq336 (ninS ne_am_b333 nin0)).keep Kq339 (ninS nx350 nin0)).other W352 (Or.inr (slot_ne (a0 := a0) (C := "gatherwick/maps/GwTreeMap") (Or.inl (own_w hw 155 rfl)) (Or.inl (own_w hw 53 rfl)) (by decide) (t := .int) (t' := (.object "gatherwick/maps/RedBlackTree$Node")) (by decide) (by decide)))).other W356 (Or.inr (slot_ne (a0 := a0) (C := "gatherwick/maps/GwTreeMap") (Or.inl (own_w hw 155 rfl)) (Or.inl (own_w hw 22 rfl)) (by decide) (t := .int) (t' := .int) (by decide) (by decide))))
  obtain ⟨T358, X358, e358, st358⟩ := getF X356 hx hZ hown (host := "") (Or.inl (own_w hw 154 rfl)) Via.refl e356 f357 (g := (mkF m 47 #[.val (.ref am), .val (.ref ap), .val (.ref ak), .val (.ref av)] [(.ref am), (.ref am)])) rfl rfl (hb hby d21_47)
  refine Go.step st358 ?_
  show Go _ _ _ _ _ _ _ T358 (mkF m 50 #[.val (.ref am), .val (.ref ap), .val (.ref ak), .val (.ref av)] [(.int mc), (.ref am)])
  refine Go.step (fun _ k => XS.iconst X358.here hx rfl (hb hby d21_50) k) ?_
  refine Go.step (fun _ k => XS.iadd X358.here hx rfl (hb hby d21_51) rfl k) ?_
  have f359 := (f355.wr W356)
  obtain ⟨T360, h360, X360, e360, W360, st360⟩ := putF X358 hx hZ hown (host := "") (Or.inl (own_w hw 154 rfl)) Via.refl e358 f357 f359 (Or.inl (own_w hw 155 rfl)) (own_w hw 1 rfl) (ty := .int) (by decide) rfl rfl (g := (mkF m 52 #[.val (.ref am), .val (.ref ap), .val (.ref ak), .val (.ref av)] [(.int (mc + (1 : Int32))), (.ref am)])) rfl rfl (hb hby d21_52)
  refine Go.step st360 ?_
  have Fw360 := f357.same W360
  have N360 := Fr.snoc X360 N356 gm
  have Z360 : n0 ≤ h360.size := Nat.le_trans Z356 (Keep.of_wr W360).1
  have KK360 := KK356.wr W360 (Or.inl (List.mem_of_getElem? (i := 0) rfl))
  show Go _ _ _ _ _ _ _ T360 (mkF m 55 #[.val (.ref am), .val (.ref ap), .val (.ref ak), .val (.ref av)] [])
  have f361 := ((((f340.keep Kq339).wr W352).wr W356).wr W360)
  have f362 := ((((b_key_336.keep Kq339 (ninS (Ne.symm ne_n1_b333) nin0)).other W352 (Or.inl (Ne.symm ne_am_b333))).other W356 (Or.inl (Ne.symm ne_am_b333))).other W360 (Or.inl (Ne.symm ne_am_b333)))
  have f363 := ((((b_value_336.keep Kq339 (ninS (Ne.symm ne_n1_b333) nin0)).other W352 (Or.inl (Ne.symm ne_am_b333))).other W356 (Or.inl (Ne.symm ne_am_b333))).other W360 (Or.inl (Ne.symm ne_am_b333)))
  have f364 := ((((b_left_336.keep Kq339 (ninS (Ne.symm ne_n1_b333) nin0)).other W352 (Or.inl (Ne.symm ne_am_b333))).other W356 (Or.inl (Ne.symm ne_am_b333))).other W360 (Or.inl (Ne.symm ne_am_b333)))
  have f365 := ((((b_right_336.keep Kq339 (ninS (Ne.symm ne_n1_b333) nin0)).other W352 (Or.inl (Ne.symm ne_am_b333))).other W356 (Or.inl (Ne.symm ne_am_b333))).other W360 (Or.inl (Ne.symm ne_am_b333)))
  have f366 := ((((b_parent_336.keep Kq339 (ninS (Ne.symm ne_n1_b333) nin0)).other W352 (Or.inl (Ne.symm ne_am_b333))).other W356 (Or.inl (Ne.symm ne_am_b333))).other W360 (Or.inl (Ne.symm ne_am_b333)))
  have f367 := ((((b_red_336.keep Kq339 (ninS (Ne.symm ne_n1_b333) nin0)).other W352 (Or.inl (Ne.symm ne_am_b333))).other W356 (Or.inl (Ne.symm ne_am_b333))).other W360 (Or.inl (Ne.symm ne_am_b333)))
  have f368 := (((d_key_339.other W352 (Or.inl (Ne.symm nx350))).other W356 (Or.inl (Ne.symm nx350))).other W360 (Or.inl (Ne.symm nx350)))
  have f369 := (((d_value_339.other W352 (Or.inl (Ne.symm nx350))).other W356 (Or.inl (Ne.symm nx350))).other W360 (Or.inl (Ne.symm nx350)))
  have f370 := (((d_left_339.other W352 (Or.inl (Ne.symm nx350))).other W356 (Or.inl (Ne.symm nx350))).other W360 (Or.inl (Ne.symm nx350)))
  have f371 := (((d_right_339.other W352 (Or.inl (Ne.symm nx350))).other W356 (Or.inl (Ne.symm nx350))).other W360 (Or.inl (Ne.symm nx350)))
  have f372 := (((d_parent_339.other W352 (Or.inl (Ne.symm nx350))).other W356 (Or.inl (Ne.symm nx350))).other W360 (Or.inl (Ne.symm nx350)))
  have f373 := (((d_red_339.other W352 (Or.inl (Ne.symm nx350))).other W356 (Or.inl (Ne.symm nx350))).other W360 (Or.inl (Ne.symm nx350)))
  have f374 := ((((((m_comparator.ext E333).keep Kq336 (ninS ne_am_b333 nin0)).keep Kq339 (ninS nx350 nin0)).other W352 (Or.inr (slot_ne (a0 := a0) (C := "gatherwick/maps/GwTreeMap") (Or.inr (own_w hw 15 rfl)) (Or.inl (own_w hw 53 rfl)) (by decide) (t := (.object "java/util/Comparator")) (t' := (.object "gatherwick/maps/RedBlackTree$Node")) (by decide) (by decide)))).other W356 (Or.inr (slot_ne (a0 := a0) (C := "gatherwick/maps/GwTreeMap") (Or.inr (own_w hw 15 rfl)) (Or.inl (own_w hw 22 rfl)) (by decide) (t := (.object "java/util/Comparator")) (t' := .int) (by decide) (by decide)))).other W360 (Or.inr (slot_ne (a0 := a0) (C := "gatherwick/maps/GwTreeMap") (Or.inr (own_w hw 15 rfl)) (Or.inl (own_w hw 155 rfl)) (by decide) (t := (.object "java/util/Comparator")) (t' := .int) (by decide) (by decide))))
  have f375 := ((Fw352.other W356 (Or.inr (slot_ne (a0 := a0) (C := "gatherwick/maps/GwTreeMap") (Or.inl (own_w hw 53 rfl)) (Or.inl (own_w hw 22 rfl)) (by decide) (t := (.object "gatherwick/maps/RedBlackTree$Node")) (t' := .int) (by decide) (by decide)))).other W360 (Or.inr (slot_ne (a0 := a0) (C := "gatherwick/maps/GwTreeMap") (Or.inl (own_w hw 53 rfl)) (Or.inl (own_w hw 155 rfl)) (by decide) (t := (.object "gatherwick/maps/RedBlackTree$Node")) (t' := .int) (by decide) (by decide))))
  have f376 := (Fw356.other W360 (Or.inr (slot_ne (a0 := a0) (C := "gatherwick/maps/GwTreeMap") (Or.inl (own_w hw 22 rfl)) (Or.inl (own_w hw 155 rfl)) (by decide) (t := .int) (t' := .int) (by decide) (by decide))))
  exact Go.ret0 X360 hx hret hlk (hb hby d21_55) e360 (by decide) (by decide) ⟨b333, rfl, N360, KK360, sz_b333, f361, f362, f363, f364, f365, f366, f367, f368, f369, f370, f371, f372, f373, f374, f375, f376, Fw360⟩
theorem ef_rmIOl (m : MethodId) (am : Addr) (ak : Addr) (av : Addr) : entryFrame m #[(.ref am), .null, (.ref ak), (.ref av)] 5 = mkF m 0 #[.val (.ref am), .val .null, .val (.ref ak), .val (.ref av), .unset] [] := by first | (simp [entryFrame, mkF, argsToLocals, Value.category]; done) | rfl
def Q_rmIOl (Z : State) (am : Addr) (ak : Addr) (av : Addr) (kv : Int32) (sz : Int32) (mc : Int32) (n1 : Addr) (x1 : Addr) (y1 : Addr) (vo : Value) (ky1 : Int32) (tl : List (Addr × Addr × Int32)) (h0 : Heap) (n0 : Nat) (v : Option Value) (h : Heap) (L : List Loc) : Prop := ∃ an : Addr, (v = some .null) ∧ (Fr n0 L) ∧ (Keep h0 h [am, n1]) ∧ (h0.size ≤ an) ∧ (Exa Z h an "gatherwick/maps/RedBlackTree$Node") ∧ (Fld Z h an "gatherwick/maps/RedBlackTree$Node" "key" "Ljava/lang/Object;" (.ref ak)) ∧ (Fld Z h an "gatherwick/maps/RedBlackTree$Node" "value" "Ljava/lang/Object;" (.ref av)) ∧ (Fld Z h an "gatherwick/maps/RedBlackTree$Node" "left" "Lgatherwick/maps/RedBlackTree$Node;" .null) ∧ (Fld Z h an "gatherwick/maps/RedBlackTree$Node" "right" "Lgatherwick/maps/RedBlackTree$Node;" .null) ∧ (Fld Z h an "gatherwick/maps/RedBlackTree$Node" "parent" "Lgatherwick/maps/RedBlackTree$Node;" (.ref n1)) ∧ (Fld Z h an "gatherwick/maps/RedBlackTree$Node" "red" "Z" (.int (1 : Int32))) ∧ (Fld Z h n1 "gatherwick/maps/RedBlackTree$Node" "key" "Ljava/lang/Object;" (.ref x1)) ∧ (Fld Z h n1 "gatherwick/maps/RedBlackTree$Node" "value" "Ljava/lang/Object;" (.ref y1)) ∧ (Fld Z h n1 "gatherwick/maps/RedBlackTree$Node" "left" "Lgatherwick/maps/RedBlackTree$Node;" (.ref an)) ∧ (Fld Z h n1 "gatherwick/maps/RedBlackTree$Node" "right" "Lgatherwick/maps/RedBlackTree$Node;" vo) ∧ (Fld Z h n1 "gatherwick/maps/RedBlackTree$Node" "parent" "Lgatherwick/maps/RedBlackTree$Node;" .null) ∧ (Fld Z h n1 "gatherwick/maps/RedBlackTree$Node" "red" "Z" (.int (0 : Int32))) ∧ (Fld Z h am "gatherwick/maps/GwTreeMap" "comparator" "Ljava/util/Comparator;" .null) ∧ (Fld Z h am "gatherwick/maps/GwTreeMap" "root" "Lgatherwick/maps/RedBlackTree$Node;" (.ref n1)) ∧ (Fld Z h am "gatherwick/maps/GwTreeMap" "size" "I" (.int (sz + (1 : Int32)))) ∧ (Fld Z h am "gatherwick/maps/GwTreeMap" "modCount" "I" (.int (mc + (1 : Int32))))
theorem rmIOl (l : Launch) (Z : State) (a0 : Array Value) (hw : ∀ d ∈ tables_1, d.before a0 Z = true) (ws : List Jvm.Cond) (am : Addr) (ak : Addr) (av : Addr) (kv : Int32) (sz : Int32) (mc : Int32) (n1 : Addr) (x1 : Addr) (y1 : Addr) (vo : Value) (ky1 : Int32) (tl : List (Addr × Addr × Int32)) (h0 : Heap) (n0 : Nat) (Z0 : n0 ≤ h0.size) (Em : Exa Z h0 am "gatherwick/maps/GwTreeMap") (gm : n0 ≤ am) (m_comparator : Fld Z h0 am "gatherwick/maps/GwTreeMap" "comparator" "Ljava/util/Comparator;" .null) (m_root : Fld Z h0 am "gatherwick/maps/GwTreeMap" "root" "Lgatherwick/maps/RedBlackTree$Node;" (.ref n1)) (m_size : Fld Z h0 am "gatherwick/maps/GwTreeMap" "size" "I" (.int sz)) (m_modCount : Fld Z h0 am "gatherwick/maps/GwTreeMap" "modCount" "I" (.int mc)) (Ek : Exa Z h0 ak "java/lang/Integer") (Fk : Fld Z h0 ak "java/lang/Integer" "value" "I" (.int kv)) (HT : own_HT Z h0 kv ((n1, x1, ky1) :: tl)) (hn : own_sn kv ((n1, x1, ky1) :: tl) = .null) (hp : own_sp kv ((n1, x1, ky1) :: tl) .null = (.ref n1)) (hl : own_sl kv ((n1, x1, ky1) :: tl) 0 = (1 : Int32)) (hz : ¬ (sz = (2147483639 : Int32))) (E_n1 : Exa Z h0 n1 "gatherwick/maps/RedBlackTree$Node") (g_n1 : n0 ≤ n1) (c_key : Fld Z h0 n1 "gatherwick/maps/RedBlackTree$Node" "key" "Ljava/lang/Object;" (.ref x1)) (c_value : Fld Z h0 n1 "gatherwick/maps/RedBlackTree$Node" "value" "Ljava/lang/Object;" (.ref y1)) (c_left : Fld Z h0 n1 "gatherwick/maps/RedBlackTree$Node" "left" "Lgatherwick/maps/RedBlackTree$Node;" .null) (c_right : Fld Z h0 n1 "gatherwick/maps/RedBlackTree$Node" "right" "Lgatherwick/maps/RedBlackTree$Node;" vo) (c_parent : Fld Z h0 n1 "gatherwick/maps/RedBlackTree$Node" "parent" "Lgatherwick/maps/RedBlackTree$Node;" .null) (c_red : Fld Z h0 n1 "gatherwick/maps/RedBlackTree$Node" "red" "Z" (.int (0 : Int32))) :
    MetFree l (⟨"gatherwick/maps/GwTreeMap", "putIn", "(Lgatherwick/maps/GwTreeMap$SubMap;Ljava/lang/Object;Ljava/lang/Object;)Ljava/lang/Object;"⟩ : MethodName) (head1 (Jvm.Cond.code (⟨"gatherwick/maps/GwTreeMap", "putIn", "(Lgatherwick/maps/GwTreeMap$SubMap;Ljava/lang/Object;Ljava/lang/Object;)Ljava/lang/Object;"⟩ : MethodName) prog_46_method_69_code 5 (some (.object "java/lang/Object")) :: ws) ({ frames := 8, cells := 2, slots := 9, locals := 115 } : Room)) (fun aA U => aA = #[(.ref am), .null, (.ref ak), (.ref av)] ∧ Z.Warmed39 U.vm ∧ U.heap = h0) (fun _ _ _ _ _ => True) (fun _ U o U' => ∃ v L, o = .returned v ∧ Q_rmIOl Z am ak av kv sz mc n1 x1 y1 vo ky1 tl h0 n0 v U'.heap L ∧ FrameEnd U o U' L ({ frames := 8, cells := 2, slots := 9, locals := 115 } : Room).cells ({ frames := 8, cells := 2, slots := 9, locals := 115 } : Room).slots) := by
  refine MetFree.of_bodySF (plainFor_of_name pn_gatherwick_maps_GwTreeMap) hisR ?_
  intro p e s m args below meth c s₁ Bd hml0 hP hK
  obtain ⟨rfl, hZ, hh⟩ := hP
  have hx := Bd.exec
  have hby := Bd.bytes
  have hml : c.maxLocals = 5 := hml0
  have hown : s.vm.findClass "gatherwick/maps/GwTreeMap" = some m.cls := findClass_of_methodNamed Bd.named
  have hnm := (name_of_methodNamed Bd.named Bd.method).1
  have hret := Bd.returns
  have hlk : meth.locks = false := BodyLoose.notSynchronized Bd
  have X0 : Stand p l e ({ frames := 8, cells := 2, slots := 9, locals := 115 } : Room) s m #[(.ref am), .null, (.ref ak), (.ref av)] below meth c s₁ [] 0 0 := Stand.of_body Bd
  have e0 : s₁.heap = h0 := by rw [← hh, Bd.state]; rfl
  have N0 := Fr.nil n0
  suffices hgo : Go p e below s ({ frames := 8, cells := 2, slots := 9, locals := 115 } : Room).cells ({ frames := 8, cells := 2, slots := 9, locals := 115 } : Room).slots (Q_rmIOl Z am ak av kv sz mc n1 x1 y1 vo ky1 tl h0 n0) s₁ (mkF m 0 #[.val (.ref am), .val .null, .val (.ref ak), .val (.ref av), .unset] []) from hgo.enter (ef_rmIOl m am ak av)
  refine Go.step (fun _ k => XS.aloadN X0.here hx rfl (hb hby d17_0) rfl rfl k) ?_
  refine Go.step (fun _ k => XS.aloadN X0.here hx rfl (hb hby d17_1) rfl rfl k) ?_
  refine Go.step (fun _ k => XS.aloadN X0.here hx rfl (hb hby d17_2) rfl rfl k) ?_
  obtain ⟨cq377, q377, q377'⟩ := Em.cell
  obtain ⟨_, _, ⟨T377, L377, k377, n377⟩, -, X377, ⟨Lc377, hQ377, l377, y377, z377⟩, st377⟩ := X0.privateBack hx (y := (⟨"gatherwick/maps/GwTreeMap", "locateToAdd", "(Lgatherwick/maps/GwTreeMap$SubMap;Ljava/lang/Object;)Lgatherwick/maps/GwTreeMap$Place;"⟩ : MethodName)) hown (mvT hZ (own_w hw 93 rfl)) (mvT hZ (own_w hw 94 rfl)) (own_selp (mvT hZ (own_w hw 1 rfl)) (Cond.privateMethod_at (mvP hZ (own_w hw 95 rfl) (args := #[]))) (mvT hZ (own_w hw 94 rfl)) (by decide)) (Cond.privateMethod_at (mvP hZ (own_w hw 95 rfl) (args := #[]))) (mvT hZ (own_w hw 96 rfl)) (by decide) (backOf (W := 0) (rmLa l Z a0 hw [] am ak kv ((n1, x1, ky1) :: tl) .null (.ref n1) (1 : Int32) h0 n0 Z0 Em m_comparator m_root Ek Fk HT rfl hn hp hl) hZ (own_w hw 96 rfl) (own_w hw 2 rfl) (by decide) (by decide)) (g := (mkF m 3 #[.val (.ref am), .val .null, .val (.ref ak), .val (.ref av), .unset] [(.ref ak), .null, (.ref am)])) rfl (by rw [hml]; rfl) (Steps.refl _) (a := am) (by rw [e0]; exact q377) q377' (argsL := [.null, (.ref ak)]) (rest := []) (lenOf pd__Lgatherwick_maps_GwTreeMap_SubMap_Ljava_lang_Object__Lgatherwick_maps_GwTreeMap_Place_ rfl) rfl (by show 2 * 0 + _ ≤ _; exact Nat.le_of_eq rfl) (hb hby d17_3) (fun _ _ => ⟨rfl, e0, (by decide : 0 + 1 ≤ _), (by decide : 0 + 3 ≤ _)⟩)
  dsimp only [Pt.U, Pt.locs, Pt.cells, Pt.slots] at X377 l377 y377 z377 st377 hQ377
  subst l377 y377 z377
  obtain ⟨h377, e377⟩ : ∃ h, T377.heap = h := ⟨_, rfl⟩
  rw [e377] at hQ377
  obtain ⟨ap_377, rfl, Nq377, Kq377, sz__377, Ep_377, Qn_377, Qp_377, Ql_377⟩ := hQ377
  have N377 := Fr.app N0 Nq377
  have Z377 : n0 ≤ h377.size := Nat.le_trans Z0 Kq377.1
  have KK377 := (Keep.refl h0 [am, n1]).trans Kq377 all0
  have g_ap_377 : n0 ≤ ap_377 := Nat.le_trans Z0 sz__377
  have sz_ap_377 : h0.size ≤ ap_377 := Nat.le_trans (Keep.refl h0 [am, n1]).1 sz__377
  have ne_ak_ap_377 : ak ≠ ap_377 := Nat.ne_of_lt (Nat.lt_of_lt_of_le Ek.lt sz__377)
  have ne_am_ap_377 : am ≠ ap_377 := Nat.ne_of_lt (Nat.lt_of_lt_of_le Em.lt sz__377)
  have ne_n1_ap_377 : n1 ≠ ap_377 := Nat.ne_of_lt (Nat.lt_of_lt_of_le E_n1.lt sz__377)
  have Ql_377 : Fld Z h377 ap_377 "gatherwick/maps/GwTreeMap$Place" "left" "Z" (.int (1 : Int32)) := Ql_377
  refine Go.trans st377 ?_
  show Go _ _ _ _ _ _ _ T377 (mkF m 6 #[.val (.ref am), .val .null, .val (.ref ak), .val (.ref av), .unset] [(.ref ap_377)])
  refine Go.step (fun _ k => XS.astore X377.here hx rfl (hb hby d17_6) rfl rfl (l' := #[.val (.ref am), .val .null, .val (.ref ak), .val (.ref av), .val (.ref ap_377)]) rfl k) ?_
  show Go _ _ _ _ _ _ _ T377 (mkF m 8 #[.val (.ref am), .val .null, .val (.ref ak), .val (.ref av), .val (.ref ap_377)] [])
  refine Go.step (fun _ k => XS.aload X377.here hx rfl (hb hby d17_8) rfl rfl k) ?_
  obtain ⟨T378, X378, e378, st378⟩ := getF X377 hx hZ hown (host := "") (Or.inl (own_w hw 108 rfl)) Via.refl e377 Qn_377 (g := (mkF m 10 #[.val (.ref am), .val .null, .val (.ref ak), .val (.ref av), .val (.ref ap_377)] [(.ref ap_377)])) rfl rfl (hb hby d17_10)
  refine Go.step st378 ?_
  show Go _ _ _ _ _ _ _ T378 (mkF m 13 #[.val (.ref am), .val .null, .val (.ref ak), .val (.ref av), .val (.ref ap_377)] [.null])
  refine Go.step (fun _ k => XS.ifnullYes X378.here hx rfl (pc0 := 13) (pc' := 26) rfl (hb hby d17_13) rfl (by decide) (by decide) k) ?_
  show Go _ _ _ _ _ _ _ T378 (mkF m 26 #[.val (.ref am), .val .null, .val (.ref ak), .val (.ref av), .val (.ref ap_377)] [])
  refine Go.step (fun _ k => XS.aloadN X378.here hx rfl (hb hby d17_26) rfl rfl k) ?_
  refine Go.step (fun _ k => XS.aload X378.here hx rfl (hb hby d17_27) rfl rfl k) ?_
  refine Go.step (fun _ k => XS.aloadN X378.here hx rfl (hb hby d17_29) rfl rfl k) ?_
  refine Go.step (fun _ k => XS.aloadN X378.here hx rfl (hb hby d17_30) rfl rfl k) ?_
  have f380 := (Em.keep Kq377)
  have f381 := (m_comparator.keep Kq377 nin0)
  have f382 := (m_root.keep Kq377 nin0)
  have f383 := (m_size.keep Kq377 nin0)
  have f384 := (m_modCount.keep Kq377 nin0)
  have f385 := (E_n1.keep Kq377)
  have f386 := (c_key.keep Kq377 nin0)
  have f387 := (c_value.keep Kq377 nin0)
  have f388 := (c_left.keep Kq377 nin0)
  have f389 := (c_right.keep Kq377 nin0)
  have f390 := (c_parent.keep Kq377 nin0)
  have f391 := (c_red.keep Kq377 nin0)
  obtain ⟨cq379, q379, q379'⟩ := f380.cell
  obtain ⟨_, _, ⟨T379, L379, k379, n379⟩, -, X379, ⟨Lc379, hQ379, l379, y379, z379⟩, st379⟩ := X378.privateBack hx (y := (⟨"gatherwick/maps/GwTreeMap", "link", "(Lgatherwick/maps/GwTreeMap$Place;Ljava/lang/Object;Ljava/lang/Object;)V"⟩ : MethodName)) hown (mvT hZ (own_w hw 110 rfl)) (mvT hZ (own_w hw 111 rfl)) (own_selp (mvT hZ (own_w hw 1 rfl)) (Cond.privateMethod_at (mvP hZ (own_w hw 112 rfl) (args := #[]))) (mvT hZ (own_w hw 111 rfl)) (by decide)) (Cond.privateMethod_at (mvP hZ (own_w hw 112 rfl) (args := #[]))) (mvT hZ (own_w hw 113 rfl)) (by decide) (backOf (W := 0) (rmMOl l Z a0 hw [] am ap_377 ak av sz mc n1 x1 y1 vo h377 n0 Z377 f380 gm f381 f382 f383 f384 Ep_377 Qp_377 Ql_377 hz f385 g_n1 f386 f387 f388 f389 f390 f391) hZ (own_w hw 113 rfl) (own_w hw 2 rfl) (by decide) (by decide)) (g := (mkF m 31 #[.val (.ref am), .val .null, .val (.ref ak), .val (.ref av), .val (.ref ap_377)] [(.ref av), (.ref ak), (.ref ap_377), (.ref am)])) rfl (by rw [hml]; rfl) (Steps.refl _) (a := am) (by rw [e378]; exact q379) q379' (argsL := [(.ref ap_377), (.ref ak), (.ref av)]) (rest := []) (lenOf pd__Lgatherwick_maps_GwTreeMap_Place_Ljava_lang_Object_Ljava_lang_Object__V rfl) rfl (by show 2 * 0 + _ ≤ _; exact Nat.le_of_eq rfl) (hb hby d17_31) (fun _ _ => ⟨rfl, e378, (by decide : 1 + 1 ≤ _), (by decide : 3 + 6 ≤ _)⟩)
  dsimp only [Pt.U, Pt.locs, Pt.cells, Pt.slots] at X379 l379 y379 z379 st379 hQ379
  subst l379 y379 z379
  obtain ⟨h379, e379⟩ : ∃ h, T379.heap = h := ⟨_, rfl⟩
  rw [e379] at hQ379
  have f392 := (Ek.keep Kq377)
  obtain ⟨an_379, rfl, Nq379, Kq379, szn_379, E_n_379, b_key_379, b_value_379, b_left_379, b_right_379, b_parent_379, b_red_379, d_key_379, d_value_379, d_left_379, d_right_379, d_parent_379, d_red_379, q_comparator_379, q_root_379, q_size_379, q_modCount_379⟩ := hQ379
  have N379 := Fr.app N377 Nq379
  have Z379 : n0 ≤ h379.size := Nat.le_trans Z377 Kq379.1
  have KK379 := KK377.trans Kq379 (allS (Or.inl (List.mem_of_getElem? (i := 0) rfl)) (allS (Or.inl (List.mem_of_getElem? (i := 1) rfl)) all0))
  have g_an_379 : n0 ≤ an_379 := Nat.le_trans Z377 szn_379
  have sz_an_379 : h0.size ≤ an_379 := Nat.le_trans KK377.1 szn_379
  have ne_ak_an_379 : ak ≠ an_379 := Nat.ne_of_lt (Nat.lt_of_lt_of_le f392.lt szn_379)
  have ne_am_an_379 : am ≠ an_379 := Nat.ne_of_lt (Nat.lt_of_lt_of_le f380.lt szn_379)
  have ne_ap_377_an_379 : ap_377 ≠ an_379 := Nat.ne_of_lt (Nat.lt_of_lt_of_le Ep_377.lt szn_379)
  have ne_n1_an_379 : n1 ≠ an_379 := Nat.ne_of_lt (Nat.lt_of_lt_of_le f385.lt szn_379)
  refine Go.trans st379 ?_
  show Go _ _ _ _ _ _ _ T379 (mkF m 34 #[.val (.ref am), .val .null, .val (.ref ak), .val (.ref av), .val (.ref ap_377)] [])
  refine Go.step (fun _ k => XS.aconstNull X379.here hx rfl (hb hby d17_34) k) ?_
  exact Go.retA X379 hx hret hlk rfl rfl (hb hby d17_35) e379 (by decide) (by decide) ⟨an_379, rfl, N379, KK379, sz_an_379, E_n_379, b_key_379, b_value_379, b_left_379, b_right_379, b_parent_379, b_red_379, d_key_379, d_value_379, d_left_379, d_right_379, d_parent_379, d_red_379, q_comparator_379, q_root_379, q_size_379, q_modCount_379⟩
theorem ef_rmUOl (m : MethodId) (am : Addr) (ak : Addr) (av : Addr) : entryFrame m #[(.ref am), (.ref ak), (.ref av)] 3 = mkF m 0 #[.val (.ref am), .val (.ref ak), .val (.ref av)] [] := by first | (simp [entryFrame, mkF, argsToLocals, Value.category]; done) | rfl
def Q_rmUOl (Z : State) (am : Addr) (ak : Addr) (av : Addr) (kv : Int32) (sz : Int32) (mc : Int32) (n1 : Addr) (x1 : Addr) (y1 : Addr) (vo : Value) (ky1 : Int32) (tl : List (Addr × Addr × Int32)) (h0 : Heap) (n0 : Nat) (v : Option Value) (h : Heap) (L : List Loc) : Prop := ∃ an : Addr, (v = some .null) ∧ (Fr n0 L) ∧ (Keep h0 h [am, n1]) ∧ (h0.size ≤ an) ∧ (Exa Z h an "gatherwick/maps/RedBlackTree$Node") ∧ (Fld Z h an "gatherwick/maps/RedBlackTree$Node" "key" "Ljava/lang/Object;" (.ref ak)) ∧ (Fld Z h an "gatherwick/maps/RedBlackTree$Node" "value" "Ljava/lang/Object;" (.ref av)) ∧ (Fld Z h an "gatherwick/maps/RedBlackTree$Node" "left" "Lgatherwick/maps/RedBlackTree$Node;" .null) ∧ (Fld Z h an "gatherwick/maps/RedBlackTree$Node" "right" "Lgatherwick/maps/RedBlackTree$Node;" .null) ∧ (Fld Z h an "gatherwick/maps/RedBlackTree$Node" "parent" "Lgatherwick/maps/RedBlackTree$Node;" (.ref n1)) ∧ (Fld Z h an "gatherwick/maps/RedBlackTree$Node" "red" "Z" (.int (1 : Int32))) ∧ (Fld Z h n1 "gatherwick/maps/RedBlackTree$Node" "key" "Ljava/lang/Object;" (.ref x1)) ∧ (Fld Z h n1 "gatherwick/maps/RedBlackTree$Node" "value" "Ljava/lang/Object;" (.ref y1)) ∧ (Fld Z h n1 "gatherwick/maps/RedBlackTree$Node" "left" "Lgatherwick/maps/RedBlackTree$Node;" (.ref an)) ∧ (Fld Z h n1 "gatherwick/maps/RedBlackTree$Node" "right" "Lgatherwick/maps/RedBlackTree$Node;" vo) ∧ (Fld Z h n1 "gatherwick/maps/RedBlackTree$Node" "parent" "Lgatherwick/maps/RedBlackTree$Node;" .null) ∧ (Fld Z h n1 "gatherwick/maps/RedBlackTree$Node" "red" "Z" (.int (0 : Int32))) ∧ (Fld Z h am "gatherwick/maps/GwTreeMap" "comparator" "Ljava/util/Comparator;" .null) ∧ (Fld Z h am "gatherwick/maps/GwTreeMap" "root" "Lgatherwick/maps/RedBlackTree$Node;" (.ref n1)) ∧ (Fld Z h am "gatherwick/maps/GwTreeMap" "size" "I" (.int (sz + (1 : Int32)))) ∧ (Fld Z h am "gatherwick/maps/GwTreeMap" "modCount" "I" (.int (mc + (1 : Int32))))
theorem rmUOl (l : Launch) (Z : State) (a0 : Array Value) (hw : ∀ d ∈ tables_1, d.before a0 Z = true) (ws : List Jvm.Cond) (am : Addr) (ak : Addr) (av : Addr) (kv : Int32) (sz : Int32) (mc : Int32) (n1 : Addr) (x1 : Addr) (y1 : Addr) (vo : Value) (ky1 : Int32) (tl : List (Addr × Addr × Int32)) (h0 : Heap) (n0 : Nat) (Z0 : n0 ≤ h0.size) (Em : Exa Z h0 am "gatherwick/maps/GwTreeMap") (gm : n0 ≤ am) (m_comparator : Fld Z h0 am "gatherwick/maps/GwTreeMap" "comparator" "Ljava/util/Comparator;" .null) (m_root : Fld Z h0 am "gatherwick/maps/GwTreeMap" "root" "Lgatherwick/maps/RedBlackTree$Node;" (.ref n1)) (m_size : Fld Z h0 am "gatherwick/maps/GwTreeMap" "size" "I" (.int sz)) (m_modCount : Fld Z h0 am "gatherwick/maps/GwTreeMap" "modCount" "I" (.int mc)) (Ek : Exa Z h0 ak "java/lang/Integer") (Fk : Fld Z h0 ak "java/lang/Integer" "value" "I" (.int kv)) (HT : own_HT Z h0 kv ((n1, x1, ky1) :: tl)) (hn : own_sn kv ((n1, x1, ky1) :: tl) = .null) (hp : own_sp kv ((n1, x1, ky1) :: tl) .null = (.ref n1)) (hl : own_sl kv ((n1, x1, ky1) :: tl) 0 = (1 : Int32)) (hz : ¬ (sz = (2147483639 : Int32))) (E_n1 : Exa Z h0 n1 "gatherwick/maps/RedBlackTree$Node") (g_n1 : n0 ≤ n1) (c_key : Fld Z h0 n1 "gatherwick/maps/RedBlackTree$Node" "key" "Ljava/lang/Object;" (.ref x1)) (c_value : Fld Z h0 n1 "gatherwick/maps/RedBlackTree$Node" "value" "Ljava/lang/Object;" (.ref y1)) (c_left : Fld Z h0 n1 "gatherwick/maps/RedBlackTree$Node" "left" "Lgatherwick/maps/RedBlackTree$Node;" .null) (c_right : Fld Z h0 n1 "gatherwick/maps/RedBlackTree$Node" "right" "Lgatherwick/maps/RedBlackTree$Node;" vo) (c_parent : Fld Z h0 n1 "gatherwick/maps/RedBlackTree$Node" "parent" "Lgatherwick/maps/RedBlackTree$Node;" .null) (c_red : Fld Z h0 n1 "gatherwick/maps/RedBlackTree$Node" "red" "Z" (.int (0 : Int32))) :
    MetFree l (⟨"gatherwick/maps/GwTreeMap", "put", "(Ljava/lang/Object;Ljava/lang/Object;)Ljava/lang/Object;"⟩ : MethodName) (head1 (Jvm.Cond.code (⟨"gatherwick/maps/GwTreeMap", "put", "(Ljava/lang/Object;Ljava/lang/Object;)Ljava/lang/Object;"⟩ : MethodName) prog_46_method_16_code 3 (some (.object "java/lang/Object")) :: ws) ({ frames := 9, cells := 2, slots := 9, locals := 131 } : Room)) (fun aA U => aA = #[(.ref am), (.ref ak), (.ref av)] ∧ Z.Warmed39 U.vm ∧ U.heap = h0) (fun _ _ _ _ _ => True) (fun _ U o U' => ∃ v L, o = .returned v ∧ Q_rmUOl Z am ak av kv sz mc n1 x1 y1 vo ky1 tl h0 n0 v U'.heap L ∧ FrameEnd U o U' L ({ frames := 9, cells := 2, slots := 9, locals := 131 } : Room).cells ({ frames := 9, cells := 2, slots := 9, locals := 131 } : Room).slots) := by
  refine MetFree.of_bodySF (plainFor_of_name pn_gatherwick_maps_GwTreeMap) hisR ?_
  intro p e s m args below meth c s₁ Bd hml0 hP hK
  obtain ⟨rfl, hZ, hh⟩ := hP
  have hx := Bd.exec
  have hby := Bd.bytes
  have hml : c.maxLocals = 3 := hml0
  have hown : s.vm.findClass "gatherwick/maps/GwTreeMap" = some m.cls := findClass_of_methodNamed Bd.named
  have hnm := (name_of_methodNamed Bd.named Bd.method).1
  have hret := Bd.returns
  have hlk : meth.locks = false := BodyLoose.notSynchronized Bd
  have X0 : Stand p l e ({ frames := 9, cells := 2, slots := 9, locals := 131 } : Room) s m #[(.ref am), (.ref ak), (.ref av)] below meth c s₁ [] 0 0 := Stand.of_body Bd
  have e0 : s₁.heap = h0 := by rw [← hh, Bd.state]; rfl
  have N0 := Fr.nil n0
  suffices hgo : Go p e below s ({ frames := 9, cells := 2, slots := 9, locals := 131 } : Room).cells ({ frames := 9, cells := 2, slots := 9, locals := 131 } : Room).slots (Q_rmUOl Z am ak av kv sz mc n1 x1 y1 vo ky1 tl h0 n0) s₁ (mkF m 0 #[.val (.ref am), .val (.ref ak), .val (.ref av)] []) from hgo.enter (ef_rmUOl m am ak av)
  refine Go.step (fun _ k => XS.aloadN X0.here hx rfl (hb hby d16_0) rfl rfl k) ?_
  refine Go.step (fun _ k => XS.aconstNull X0.here hx rfl (hb hby d16_1) k) ?_
  refine Go.step (fun _ k => XS.aloadN X0.here hx rfl (hb hby d16_2) rfl rfl k) ?_
  refine Go.step (fun _ k => XS.aloadN X0.here hx rfl (hb hby d16_3) rfl rfl k) ?_
  obtain ⟨cq393, q393, q393'⟩ := Em.cell
  obtain ⟨_, _, ⟨T393, L393, k393, n393⟩, -, X393, ⟨Lc393, hQ393, l393, y393, z393⟩, st393⟩ := X0.privateBack hx (y := (⟨"gatherwick/maps/GwTreeMap", "putIn", "(Lgatherwick/maps/GwTreeMap$SubMap;Ljava/lang/Object;Ljava/lang/Object;)Ljava/lang/Object;"⟩ : MethodName)) hown (mvT hZ (own_w hw 89 rfl)) (mvT hZ (own_w hw 90 rfl)) (own_selp (mvT hZ (own_w hw 1 rfl)) (Cond.privateMethod_at (mvP hZ (own_w hw 91 rfl) (args := #[]))) (mvT hZ (own_w hw 90 rfl)) (by decide)) (Cond.privateMethod_at (mvP hZ (own_w hw 91 rfl) (args := #[]))) (mvT hZ (own_w hw 92 rfl)) (by decide) (backOf (W := 0) (rmIOl l Z a0 hw [] am ak av kv sz mc n1 x1 y1 vo ky1 tl h0 n0 Z0 Em gm m_comparator m_root m_size m_modCount Ek Fk HT hn hp hl hz E_n1 g_n1 c_key c_value c_left c_right c_parent c_red) hZ (own_w hw 92 rfl) (own_w hw 2 rfl) (by decide) (by decide)) (g := (mkF m 4 #[.val (.ref am), .val (.ref ak), .val (.ref av)] [(.ref av), (.ref ak), .null, (.ref am)])) rfl (by rw [hml]; rfl) (Steps.refl _) (a := am) (by rw [e0]; exact q393) q393' (argsL := [.null, (.ref ak), (.ref av)]) (rest := []) (lenOf pd__Lgatherwick_maps_GwTreeMap_SubMap_Ljava_lang_Object_Ljava_lang_Object__Ljava_lang_Object_ rfl) rfl (by show 2 * 0 + _ ≤ _; exact Nat.le_of_eq rfl) (hb hby d16_4) (fun _ _ => ⟨rfl, e0, (by decide : 0 + 2 ≤ _), (by decide : 0 + 9 ≤ _)⟩)
  dsimp only [Pt.U, Pt.locs, Pt.cells, Pt.slots] at X393 l393 y393 z393 st393 hQ393
  subst l393 y393 z393
  obtain ⟨h393, e393⟩ : ∃ h, T393.heap = h := ⟨_, rfl⟩
  rw [e393] at hQ393
  obtain ⟨an_393, rfl, Nq393, Kq393, szn_393, E_n_393, b_key_393, b_value_393, b_left_393, b_right_393, b_parent_393, b_red_393, d_key_393, d_value_393, d_left_393, d_right_393, d_parent_393, d_red_393, q_comparator_393, q_root_393, q_size_393, q_modCount_393⟩ := hQ393
  have N393 := Fr.app N0 Nq393
  have Z393 : n0 ≤ h393.size := Nat.le_trans Z0 Kq393.1
  have KK393 := (Keep.refl h0 [am, n1]).trans Kq393 (allS (Or.inl (List.mem_of_getElem? (i := 0) rfl)) (allS (Or.inl (List.mem_of_getElem? (i := 1) rfl)) all0))
  have g_an_393 : n0 ≤ an_393 := Nat.le_trans Z0 szn_393
  have sz_an_393 : h0.size ≤ an_393 := Nat.le_trans (Keep.refl h0 [am, n1]).1 szn_393
  have ne_ak_an_393 : ak ≠ an_393 := Nat.ne_of_lt (Nat.lt_of_lt_of_le Ek.lt szn_393)
  have ne_am_an_393 : am ≠ an_393 := Nat.ne_of_lt (Nat.lt_of_lt_of_le Em.lt szn_393)
  have ne_n1_an_393 : n1 ≠ an_393 := Nat.ne_of_lt (Nat.lt_of_lt_of_le E_n1.lt szn_393)
  refine Go.trans st393 ?_
  show Go _ _ _ _ _ _ _ T393 (mkF m 7 #[.val (.ref am), .val (.ref ak), .val (.ref av)] [.null])
  exact Go.retA X393 hx hret hlk rfl rfl (hb hby d16_7) e393 (by decide) (by decide) ⟨an_393, rfl, N393, KK393, sz_an_393, E_n_393, b_key_393, b_value_393, b_left_393, b_right_393, b_parent_393, b_red_393, d_key_393, d_value_393, d_left_393, d_right_393, d_parent_393, d_red_393, q_comparator_393, q_root_393, q_size_393, q_modCount_393⟩
theorem ef_rmBor (m : MethodId) (n1 : Addr) (an : Addr) : entryFrame m #[(.ref n1), (.ref an)] 5 = mkF m 0 #[.val (.ref n1), .val (.ref an), .unset, .unset, .unset] [] := by first | (simp [entryFrame, mkF, argsToLocals, Value.category]; done) | rfl
def Q_rmBor (Z : State) (n1 : Addr) (an : Addr) (x1 : Addr) (y1 : Addr) (vo : Value) (h0 : Heap) (n0 : Nat) (v : Option Value) (h : Heap) (L : List Loc) : Prop := (v = some (.ref n1)) ∧ (Fr n0 L) ∧ (Keep h0 h [n1]) ∧ (Fld Z h n1 "gatherwick/maps/RedBlackTree$Node" "key" "Ljava/lang/Object;" (.ref x1)) ∧ (Fld Z h n1 "gatherwick/maps/RedBlackTree$Node" "value" "Ljava/lang/Object;" (.ref y1)) ∧ (Fld Z h n1 "gatherwick/maps/RedBlackTree$Node" "right" "Lgatherwick/maps/RedBlackTree$Node;" (.ref an)) ∧ (Fld Z h n1 "gatherwick/maps/RedBlackTree$Node" "left" "Lgatherwick/maps/RedBlackTree$Node;" vo) ∧ (Fld Z h n1 "gatherwick/maps/RedBlackTree$Node" "parent" "Lgatherwick/maps/RedBlackTree$Node;" .null) ∧ (Fld Z h n1 "gatherwick/maps/RedBlackTree$Node" "red" "Z" (.int (0 : Int32)))
theorem rmBor (l : Launch) (Z : State) (a0 : Array Value) (hw : ∀ d ∈ tables_1, d.before a0 Z = true) (ws : List Jvm.Cond) (n1 : Addr) (an : Addr) (x1 : Addr) (y1 : Addr) (vo : Value) (h0 : Heap) (n0 : Nat) (Z0 : n0 ≤ h0.size) (E_n1 : Exa Z h0 n1 "gatherwick/maps/RedBlackTree$Node") (g_n1 : n0 ≤ n1) (c_key : Fld Z h0 n1 "gatherwick/maps/RedBlackTree$Node" "key" "Ljava/lang/Object;" (.ref x1)) (c_value : Fld Z h0 n1 "gatherwick/maps/RedBlackTree$Node" "value" "Ljava/lang/Object;" (.ref y1)) (c_right : Fld Z h0 n1 "gatherwick/maps/RedBlackTree$Node" "right" "Lgatherwick/maps/RedBlackTree$Node;" (.ref an)) (c_left : Fld Z h0 n1 "gatherwick/maps/RedBlackTree$Node" "left" "Lgatherwick/maps/RedBlackTree$Node;" vo) (c_parent : Fld Z h0 n1 "gatherwick/maps/RedBlackTree$Node" "parent" "Lgatherwick/maps/RedBlackTree$Node;" .null) (c_red : Fld Z h0 n1 "gatherwick/maps/RedBlackTree$Node" "red" "Z" (.int (0 : Int32))) (a_parent : Fld Z h0 an "gatherwick/maps/RedBlackTree$Node" "parent" "Lgatherwick/maps/RedBlackTree$Node;" (.ref n1)) :
    MetFree l (⟨"gatherwick/maps/RedBlackTree", "rebalanceAfterLink", "(Lgatherwick/maps/RedBlackTree$Node;Lgatherwick/maps/RedBlackTree$Node;)Lgatherwick/maps/RedBlackTree$Node;"⟩ : MethodName) (head1 (Jvm.Cond.code (⟨"gatherwick/maps/RedBlackTree", "rebalanceAfterLink", "(Lgatherwick/maps/RedBlackTree$Node;Lgatherwick/maps/RedBlackTree$Node;)Lgatherwick/maps/RedBlackTree$Node;"⟩ : MethodName) prog_57_method_3_code 5 (some (.object "gatherwick/maps/RedBlackTree$Node")) :: ws) ({ frames := 1, cells := 0, slots := 0, locals := 12 } : Room)) (fun aA U => aA = #[(.ref n1), (.ref an)] ∧ Z.Warmed39 U.vm ∧ U.heap = h0) (fun _ _ _ _ _ => True) (fun _ U o U' => ∃ v L, o = .returned v ∧ Q_rmBor Z n1 an x1 y1 vo h0 n0 v U'.heap L ∧ FrameEnd U o U' L ({ frames := 1, cells := 0, slots := 0, locals := 12 } : Room).cells ({ frames := 1, cells := 0, slots := 0, locals := 12 } : Room).slots) := by
  refine MetFree.of_bodySF (plainFor_of_name pn_gatherwick_maps_RedBlackTree) hisR ?_
  intro p e s m args below meth c s₁ Bd hml0 hP hK
  obtain ⟨rfl, hZ, hh⟩ := hP
  have hx := Bd.exec
  have hby := Bd.bytes
  have hml : c.maxLocals = 5 := hml0
  have hown : s.vm.findClass "gatherwick/maps/RedBlackTree" = some m.cls := findClass_of_methodNamed Bd.named
  have hnm := (name_of_methodNamed Bd.named Bd.method).1
  have hret := Bd.returns
  have hlk : meth.locks = false := BodyLoose.notSynchronized Bd
  have X0 : Stand p l e ({ frames := 1, cells := 0, slots := 0, locals := 12 } : Room) s m #[(.ref n1), (.ref an)] below meth c s₁ [] 0 0 := Stand.of_body Bd
  have e0 : s₁.heap = h0 := by rw [← hh, Bd.state]; rfl
  have N0 := Fr.nil n0
  suffices hgo : Go p e below s ({ frames := 1, cells := 0, slots := 0, locals := 12 } : Room).cells ({ frames := 1, cells := 0, slots := 0, locals := 12 } : Room).slots (Q_rmBor Z n1 an x1 y1 vo h0 n0) s₁ (mkF m 0 #[.val (.ref n1), .val (.ref an), .unset, .unset, .unset] []) from hgo.enter (ef_rmBor m n1 an)
  refine Go.step (fun _ k => XS.aloadN X0.here hx rfl (hb hby d26_0) rfl rfl k) ?_
  obtain ⟨T394, X394, e394, st394⟩ := getF X0 hx hZ hown (host := "") (Or.inl (own_w hw 146 rfl)) Via.refl e0 a_parent (g := (mkF m 1 #[.val (.ref n1), .val (.ref an), .unset, .unset, .unset] [(.ref an)])) rfl rfl (hb hby d26_1)
  refine Go.step st394 ?_
  show Go _ _ _ _ _ _ _ T394 (mkF m 4 #[.val (.ref n1), .val (.ref an), .unset, .unset, .unset] [(.ref n1)])
  obtain ⟨_, _, ⟨T395, L395, k395, n395⟩, -, X395, ⟨Lc395, hQ395, l395, y395, z395⟩, st395⟩ := Jvm.LawKit.callS X394 hx (y := (⟨"gatherwick/maps/RedBlackTree", "isRed", "(Lgatherwick/maps/RedBlackTree$Node;)Z"⟩ : MethodName)) hown (mvT hZ (own_w hw 150 rfl)) (mvT hZ (own_w hw 151 rfl)) (mvT hZ (own_w hw 144 rfl)) (mvT hZ (own_w hw 152 rfl)) (by decide) (backOf (W := 0) (rmRz l Z a0 hw [] n1 h0 n0 Z0 c_red) hZ (own_w hw 152 rfl) (own_w hw 144 rfl) (by decide) (by decide)) (g := (mkF m 4 #[.val (.ref n1), .val (.ref an), .unset, .unset, .unset] [(.ref n1)])) rfl (by rw [hml]; rfl) (argsL := [(.ref n1)]) (rest := []) (lenOf pd__Lgatherwick_maps_RedBlackTree_Node__Z rfl) rfl (by show 2 * 0 + _ ≤ _; exact Nat.le_of_eq rfl) (hb hby d26_4) (fun _ _ => ⟨rfl, e394, (by decide : 0 + 0 ≤ _), (by decide : 0 + 0 ≤ _)⟩)
  dsimp only [Pt.U, Pt.locs, Pt.cells, Pt.slots] at X395 l395 y395 z395 st395 hQ395
  subst l395 y395 z395
  obtain ⟨h395, e395⟩ : ∃ h, T395.heap = h := ⟨_, rfl⟩
  rw [e395] at hQ395
  obtain ⟨rfl, Nq395, hs395⟩ := hQ395
  have N395 := Fr.app N0 Nq395
  rw [hs395] at e395
  refine Go.step st395 ?_
  show Go _ _ _ _ _ _ _ T395 (mkF m 7 #[.val (.ref n1), .val (.ref an), .unset, .unset, .unset] [(.int (0 : Int32))])
  have hc7_396 : (0 : Int32) = (0 : Int32) := (by decide)
  refine Go.step (fun _ k => XS.ifYes X395.here hx rfl (pc0 := 7) (pc' := 178) rfl (hb hby d26_7) rfl ((if0 _ _).trans (teq hc7_396).1) (by decide) (by decide) k) ?_
  show Go _ _ _ _ _ _ _ T395 (mkF m 178 #[.val (.ref n1), .val (.ref an), .unset, .unset, .unset] [])
  refine Go.step (fun _ k => XS.aloadN X395.here hx rfl (hb hby d26_178) rfl rfl k) ?_
  refine Go.step (fun _ k => XS.iconst X395.here hx rfl (hb hby d26_179) k) ?_
  obtain ⟨T397, h397, X397, e397, W397, st397⟩ := putFN X395 hx hZ hown (own_w hw 153 rfl) Via.refl e395 c_red E_n1 (Or.inl (own_w hw 133 rfl)) (own_w hw 119 rfl) (ty := .boolean) (v' := (.int (0 : Int32))) (by decide) rfl rfl (g := (mkF m 180 #[.val (.ref n1), .val (.ref an), .unset, .unset, .unset] [(.int (0 : Int32)), (.ref n1)])) rfl rfl (hb hby d26_180)
  refine Go.step st397 ?_
  have Fw397 := c_red.same W397
  have N397 := Fr.snoc X397 N395 g_n1
  have Z397 : n0 ≤ h397.size := Nat.le_trans Z0 (Keep.of_wr W397).1
  have KK397 := (Keep.refl h0 [n1]).wr W397 (Or.inl (List.mem_of_getElem? (i := 0) rfl))
  show Go _ _ _ _ _ _ _ T397 (mkF m 183 #[.val (.ref n1), .val (.ref an), .unset, .unset, .unset] [])
  refine Go.step (fun _ k => XS.aloadN X397.here hx rfl (hb hby d26_183) rfl rfl k) ?_
  have f398 := (c_key.other W397 (Or.inr (slot_ne (a0 := a0) (C := "gatherwick/maps/RedBlackTree$Node") (Or.inr (own_w hw 135 rfl)) (Or.inl (own_w hw 133 rfl)) (by decide) (t := (.object "java/lang/Object")) (t' := .boolean) (by decide) (by decide))))
  have f399 := (c_value.other W397 (Or.inr (slot_ne (a0 := a0) (C := "gatherwick/maps/RedBlackTree$Node") (Or.inl (own_w hw 137 rfl)) (Or.inl (own_w hw 133 rfl)) (by decide) (t := (.object "java/lang/Object")) (t' := .boolean) (by decide) (by decide))))
  have f400 := (c_right.other W397 (Or.inr (slot_ne (a0 := a0) (C := "gatherwick/maps/RedBlackTree$Node") (Or.inl (own_w hw 176 rfl)) (Or.inl (own_w hw 133 rfl)) (by decide) (t := (.object "gatherwick/maps/RedBlackTree$Node")) (t' := .boolean) (by decide) (by decide))))
  have f401 := (c_left.other W397 (Or.inr (slot_ne (a0 := a0) (C := "gatherwick/maps/RedBlackTree$Node") (Or.inl (own_w hw 179 rfl)) (Or.inl (own_w hw 133 rfl)) (by decide) (t := (.object "gatherwick/maps/RedBlackTree$Node")) (t' := .boolean) (by decide) (by decide))))
  have f402 := (c_parent.other W397 (Or.inr (slot_ne (a0 := a0) (C := "gatherwick/maps/RedBlackTree$Node") (Or.inl (own_w hw 139 rfl)) (Or.inl (own_w hw 133 rfl)) (by decide) (t := (.object "gatherwick/maps/RedBlackTree$Node")) (t' := .boolean) (by decide) (by decide))))
  exact Go.retA X397 hx hret hlk rfl rfl (hb hby d26_184) e397 (by decide) (by decide) ⟨rfl, N397, KK397, f398, f399, f400, f401, f402, Fw397⟩
theorem ef_rmKOr (m : MethodId) (n1 : Addr) (an : Addr) : entryFrame m #[(.ref n1), (.ref an), (.int (0 : Int32))] 4 = mkF m 0 #[.val (.ref n1), .val (.ref an), .val (.int (0 : Int32)), .unset] [] := by first | (simp [entryFrame, mkF, argsToLocals, Value.category]; done) | rfl
def Q_rmKOr (Z : State) (n1 : Addr) (an : Addr) (x1 : Addr) (y1 : Addr) (vo : Value) (xk : Addr) (xv : Addr) (h0 : Heap) (n0 : Nat) (v : Option Value) (h : Heap) (L : List Loc) : Prop := (v = some (.ref n1)) ∧ (Fr n0 L) ∧ (Keep h0 h [n1]) ∧ (Fld Z h n1 "gatherwick/maps/RedBlackTree$Node" "key" "Ljava/lang/Object;" (.ref x1)) ∧ (Fld Z h n1 "gatherwick/maps/RedBlackTree$Node" "value" "Ljava/lang/Object;" (.ref y1)) ∧ (Fld Z h n1 "gatherwick/maps/RedBlackTree$Node" "right" "Lgatherwick/maps/RedBlackTree$Node;" (.ref an)) ∧ (Fld Z h n1 "gatherwick/maps/RedBlackTree$Node" "left" "Lgatherwick/maps/RedBlackTree$Node;" vo) ∧ (Fld Z h n1 "gatherwick/maps/RedBlackTree$Node" "parent" "Lgatherwick/maps/RedBlackTree$Node;" .null) ∧ (Fld Z h n1 "gatherwick/maps/RedBlackTree$Node" "red" "Z" (.int (0 : Int32)))
theorem rmKOr (l : Launch) (Z : State) (a0 : Array Value) (hw : ∀ d ∈ tables_1, d.before a0 Z = true) (ws : List Jvm.Cond) (n1 : Addr) (an : Addr) (x1 : Addr) (y1 : Addr) (vo : Value) (xk : Addr) (xv : Addr) (h0 : Heap) (n0 : Nat) (Z0 : n0 ≤ h0.size) (E_an : Exa Z h0 an "gatherwick/maps/RedBlackTree$Node") (g_an : n0 ≤ an) (ne_an0 : an ≠ n1) (a_key : Fld Z h0 an "gatherwick/maps/RedBlackTree$Node" "key" "Ljava/lang/Object;" (.ref xk)) (a_value : Fld Z h0 an "gatherwick/maps/RedBlackTree$Node" "value" "Ljava/lang/Object;" (.ref xv)) (a_left : Fld Z h0 an "gatherwick/maps/RedBlackTree$Node" "left" "Lgatherwick/maps/RedBlackTree$Node;" .null) (a_right : Fld Z h0 an "gatherwick/maps/RedBlackTree$Node" "right" "Lgatherwick/maps/RedBlackTree$Node;" .null) (a_parent : Fld Z h0 an "gatherwick/maps/RedBlackTree$Node" "parent" "Lgatherwick/maps/RedBlackTree$Node;" (.ref n1)) (a_red : Fld Z h0 an "gatherwick/maps/RedBlackTree$Node" "red" "Z" (.int (1 : Int32))) (E_n1 : Exa Z h0 n1 "gatherwick/maps/RedBlackTree$Node") (g_n1 : n0 ≤ n1) (c_key : Fld Z h0 n1 "gatherwick/maps/RedBlackTree$Node" "key" "Ljava/lang/Object;" (.ref x1)) (c_value : Fld Z h0 n1 "gatherwick/maps/RedBlackTree$Node" "value" "Ljava/lang/Object;" (.ref y1)) (c_right : Fld Z h0 n1 "gatherwick/maps/RedBlackTree$Node" "right" "Lgatherwick/maps/RedBlackTree$Node;" .null) (c_left : Fld Z h0 n1 "gatherwick/maps/RedBlackTree$Node" "left" "Lgatherwick/maps/RedBlackTree$Node;" vo) (c_parent : Fld Z h0 n1 "gatherwick/maps/RedBlackTree$Node" "parent" "Lgatherwick/maps/RedBlackTree$Node;" .null) (c_red : Fld Z h0 n1 "gatherwick/maps/RedBlackTree$Node" "red" "Z" (.int (0 : Int32))) :
    MetFree l (⟨"gatherwick/maps/RedBlackTree", "link", "(Lgatherwick/maps/RedBlackTree$Node;Lgatherwick/maps/RedBlackTree$Node;Z)Lgatherwick/maps/RedBlackTree$Node;"⟩ : MethodName) (head1 (Jvm.Cond.code (⟨"gatherwick/maps/RedBlackTree", "link", "(Lgatherwick/maps/RedBlackTree$Node;Lgatherwick/maps/RedBlackTree$Node;Z)Lgatherwick/maps/RedBlackTree$Node;"⟩ : MethodName) prog_57_method_2_code 4 (some (.object "gatherwick/maps/RedBlackTree$Node")) :: ws) ({ frames := 2, cells := 0, slots := 0, locals := 28 } : Room)) (fun aA U => aA = #[(.ref n1), (.ref an), (.int (0 : Int32))] ∧ Z.Warmed39 U.vm ∧ U.heap = h0) (fun _ _ _ _ _ => True) (fun _ U o U' => ∃ v L, o = .returned v ∧ Q_rmKOr Z n1 an x1 y1 vo xk xv h0 n0 v U'.heap L ∧ FrameEnd U o U' L ({ frames := 2, cells := 0, slots := 0, locals := 28 } : Room).cells ({ frames := 2, cells := 0, slots := 0, locals := 28 } : Room).slots) := by
  refine MetFree.of_bodySF (plainFor_of_name pn_gatherwick_maps_RedBlackTree) hisR ?_
  intro p e s m args below meth c s₁ Bd hml0 hP hK
  obtain ⟨rfl, hZ, hh⟩ := hP
  have hx := Bd.exec
  have hby := Bd.bytes
  have hml : c.maxLocals = 4 := hml0
  have hown : s.vm.findClass "gatherwick/maps/RedBlackTree" = some m.cls := findClass_of_methodNamed Bd.named
  have hnm := (name_of_methodNamed Bd.named Bd.method).1
  have hret := Bd.returns
  have hlk : meth.locks = false := BodyLoose.notSynchronized Bd
  have X0 : Stand p l e ({ frames := 2, cells := 0, slots := 0, locals := 28 } : Room) s m #[(.ref n1), (.ref an), (.int (0 : Int32))] below meth c s₁ [] 0 0 := Stand.of_body Bd
  have e0 : s₁.heap = h0 := by rw [← hh, Bd.state]; rfl
  have N0 := Fr.nil n0
  suffices hgo : Go p e below s ({ frames := 2, cells := 0, slots := 0, locals := 28 } : Room).cells ({ frames := 2, cells := 0, slots := 0, locals := 28 } : Room).slots (Q_rmKOr Z n1 an x1 y1 vo xk xv h0 n0) s₁ (mkF m 0 #[.val (.ref n1), .val (.ref an), .val (.int (0 : Int32)), .unset] []) from hgo.enter (ef_rmKOr m n1 an)
  refine Go.step (fun _ k => XS.aloadN X0.here hx rfl (hb hby d25_0) rfl rfl k) ?_
  obtain ⟨T403, X403, e403, st403⟩ := getF X0 hx hZ hown (host := "") (Or.inl (own_w hw 146 rfl)) Via.refl e0 a_parent (g := (mkF m 1 #[.val (.ref n1), .val (.ref an), .val (.int (0 : Int32)), .unset] [(.ref an)])) rfl rfl (hb hby d25_1)
  refine Go.step st403 ?_
  show Go _ _ _ _ _ _ _ T403 (mkF m 4 #[.val (.ref n1), .val (.ref an), .val (.int (0 : Int32)), .unset] [(.ref n1)])
  refine Go.step (fun _ k => XS.astoreN X403.here hx rfl (hb hby d25_4) rfl rfl (l' := #[.val (.ref n1), .val (.ref an), .val (.int (0 : Int32)), .val (.ref n1)]) rfl k) ?_
  show Go _ _ _ _ _ _ _ T403 (mkF m 5 #[.val (.ref n1), .val (.ref an), .val (.int (0 : Int32)), .val (.ref n1)] [])
  refine Go.step (fun _ k => XS.aloadN X403.here hx rfl (hb hby d25_5) rfl rfl k) ?_
  refine Go.step (fun _ k => XS.ifnonnullYes X403.here hx rfl (pc0 := 6) (pc' := 14) rfl (hb hby d25_6) rfl (by decide) (by decide) k) ?_
  show Go _ _ _ _ _ _ _ T403 (mkF m 14 #[.val (.ref n1), .val (.ref an), .val (.int (0 : Int32)), .val (.ref n1)] [])
  refine Go.step (fun _ k => XS.iloadN X403.here hx rfl (hb hby d25_14) rfl k) ?_
  have hc15_404 : (0 : Int32) = (0 : Int32) := (by decide)
  refine Go.step (fun _ k => XS.ifYes X403.here hx rfl (pc0 := 15) (pc' := 26) rfl (hb hby d25_15) rfl ((if0 _ _).trans (teq hc15_404).1) (by decide) (by decide) k) ?_
  show Go _ _ _ _ _ _ _ T403 (mkF m 26 #[.val (.ref n1), .val (.ref an), .val (.int (0 : Int32)), .val (.ref n1)] [])
  refine Go.step (fun _ k => XS.aloadN X403.here hx rfl (hb hby d25_26) rfl rfl k) ?_
  refine Go.step (fun _ k => XS.aloadN X403.here hx rfl (hb hby d25_27) rfl rfl k) ?_
  obtain ⟨T405, h405, X405, e405, W405, st405⟩ := putF X403 hx hZ hown (host := "") (Or.inl (own_w hw 177 rfl)) Via.refl e403 c_right E_n1 (Or.inl (own_w hw 176 rfl)) (own_w hw 119 rfl) (ty := (.object "gatherwick/maps/RedBlackTree$Node")) (by decide) rfl rfl (g := (mkF m 28 #[.val (.ref n1), .val (.ref an), .val (.int (0 : Int32)), .val (.ref n1)] [(.ref an), (.ref n1)])) rfl rfl (hb hby d25_28)
  refine Go.step st405 ?_
  have Fw405 := c_right.same W405
  have N405 := Fr.snoc X405 N0 g_n1
  have Z405 : n0 ≤ h405.size := Nat.le_trans Z0 (Keep.of_wr W405).1
  have KK405 := (Keep.refl h0 [n1]).wr W405 (Or.inl (List.mem_of_getElem? (i := 0) rfl))
  show Go _ _ _ _ _ _ _ T405 (mkF m 31 #[.val (.ref n1), .val (.ref an), .val (.int (0 : Int32)), .val (.ref n1)] [])
  refine Go.step (fun _ k => XS.aloadN X405.here hx rfl (hb hby d25_31) rfl rfl k) ?_
  refine Go.step (fun _ k => XS.aloadN X405.here hx rfl (hb hby d25_32) rfl rfl k) ?_
  have f407 := (E_n1.wr W405)
  have f408 := (c_key.other W405 (Or.inr (slot_ne (a0 := a0) (C := "gatherwick/maps/RedBlackTree$Node") (Or.inr (own_w hw 135 rfl)) (Or.inl (own_w hw 176 rfl)) (by decide) (t := (.object "java/lang/Object")) (t' := (.object "gatherwick/maps/RedBlackTree$Node")) (by decide) (by decide))))
  have f409 := (c_value.other W405 (Or.inr (slot_ne (a0 := a0) (C := "gatherwick/maps/RedBlackTree$Node") (Or.inl (own_w hw 137 rfl)) (Or.inl (own_w hw 176 rfl)) (by decide) (t := (.object "java/lang/Object")) (t' := (.object "gatherwick/maps/RedBlackTree$Node")) (by decide) (by decide))))
  have f410 := (c_left.other W405 (Or.inr (slot_ne (a0 := a0) (C := "gatherwick/maps/RedBlackTree$Node") (Or.inl (own_w hw 179 rfl)) (Or.inl (own_w hw 176 rfl)) (by decide) (t := (.object "gatherwick/maps/RedBlackTree$Node")) (t' := (.object "gatherwick/maps/RedBlackTree$Node")) (by decide) (by decide))))
  have f411 := (c_parent.other W405 (Or.inr (slot_ne (a0 := a0) (C := "gatherwick/maps/RedBlackTree$Node") (Or.inl (own_w hw 139 rfl)) (Or.inl (own_w hw 176 rfl)) (by decide) (t := (.object "gatherwick/maps/RedBlackTree$Node")) (t' := (.object "gatherwick/maps/RedBlackTree$Node")) (by decide) (by decide))))
  have f412 := (c_red.other W405 (Or.inr (slot_ne (a0 := a0) (C := "gatherwick/maps/RedBlackTree$Node") (Or.inl (own_w hw 133 rfl)) (Or.inl (own_w hw 176 rfl)) (by decide) (t := .boolean) (t' := (.object "gatherwick/maps/RedBlackTree$Node")) (by decide) (by decide))))
  have f413 := (a_parent.other W405 (Or.inl ne_an0))
  obtain ⟨_, _, ⟨T406, L406, k406, n406⟩, -, X406, ⟨Lc406, hQ406, l406, y406, z406⟩, st406⟩ := Jvm.LawKit.callS X405 hx (y := (⟨"gatherwick/maps/RedBlackTree", "rebalanceAfterLink", "(Lgatherwick/maps/RedBlackTree$Node;Lgatherwick/maps/RedBlackTree$Node;)Lgatherwick/maps/RedBlackTree$Node;"⟩ : MethodName)) hown (mvT hZ (own_w hw 147 rfl)) (mvT hZ (own_w hw 148 rfl)) (mvT hZ (own_w hw 144 rfl)) (mvT hZ (own_w hw 149 rfl)) (by decide) (backOf (W := 0) (rmBor l Z a0 hw [] n1 an x1 y1 vo h405 n0 Z405 f407 g_n1 f408 f409 Fw405 f410 f411 f412 f413) hZ (own_w hw 149 rfl) (own_w hw 144 rfl) (by decide) (by decide)) (g := (mkF m 33 #[.val (.ref n1), .val (.ref an), .val (.int (0 : Int32)), .val (.ref n1)] [(.ref an), (.ref n1)])) rfl (by rw [hml]; rfl) (argsL := [(.ref n1), (.ref an)]) (rest := []) (lenOf pd__Lgatherwick_maps_RedBlackTree_Node_Lgatherwick_maps_RedBlackTree_Node__Lgatherwick_maps_RedBlackTree_Node_ rfl) rfl (by show 2 * 0 + _ ≤ _; exact Nat.le_of_eq rfl) (hb hby d25_33) (fun _ _ => ⟨rfl, e405, (by decide : 0 + 0 ≤ _), (by decide : 0 + 0 ≤ _)⟩)
  dsimp only [Pt.U, Pt.locs, Pt.cells, Pt.slots] at X406 l406 y406 z406 st406 hQ406
  subst l406 y406 z406
  obtain ⟨h406, e406⟩ : ∃ h, T406.heap = h := ⟨_, rfl⟩
  rw [e406] at hQ406
  obtain ⟨rfl, Nq406, Kq406, d_key_406, d_value_406, d_right_406, d_left_406, d_parent_406, d_red_406⟩ := hQ406
  have N406 := Fr.app N405 Nq406
  have Z406 : n0 ≤ h406.size := Nat.le_trans Z405 Kq406.1
  have KK406 := KK405.trans Kq406 (allS (Or.inl (List.mem_of_getElem? (i := 0) rfl)) all0)
  refine Go.step st406 ?_
  show Go _ _ _ _ _ _ _ T406 (mkF m 36 #[.val (.ref n1), .val (.ref an), .val (.int (0 : Int32)), .val (.ref n1)] [(.ref n1)])
  exact Go.retA X406 hx hret hlk rfl rfl (hb hby d25_36) e406 (by decide) (by decide) ⟨rfl, N406, KK406, d_key_406, d_value_406, d_right_406, d_left_406, d_parent_406, d_red_406⟩
theorem ef_rmMOr (m : MethodId) (am : Addr) (ap : Addr) (ak : Addr) (av : Addr) : entryFrame m #[(.ref am), (.ref ap), (.ref ak), (.ref av)] 4 = mkF m 0 #[.val (.ref am), .val (.ref ap), .val (.ref ak), .val (.ref av)] [] := by first | (simp [entryFrame, mkF, argsToLocals, Value.category]; done) | rfl
def Q_rmMOr (Z : State) (am : Addr) (ap : Addr) (ak : Addr) (av : Addr) (sz : Int32) (mc : Int32) (n1 : Addr) (x1 : Addr) (y1 : Addr) (vo : Value) (h0 : Heap) (n0 : Nat) (v : Option Value) (h : Heap) (L : List Loc) : Prop := ∃ an : Addr, (v = none) ∧ (Fr n0 L) ∧ (Keep h0 h [am, n1]) ∧ (h0.size ≤ an) ∧ (Exa Z h an "gatherwick/maps/RedBlackTree$Node") ∧ (Fld Z h an "gatherwick/maps/RedBlackTree$Node" "key" "Ljava/lang/Object;" (.ref ak)) ∧ (Fld Z h an "gatherwick/maps/RedBlackTree$Node" "value" "Ljava/lang/Object;" (.ref av)) ∧ (Fld Z h an "gatherwick/maps/RedBlackTree$Node" "left" "Lgatherwick/maps/RedBlackTree$Node;" .null) ∧ (Fld Z h an "gatherwick/maps/RedBlackTree$Node" "right" "Lgatherwick/maps/RedBlackTree$Node;" .null) ∧ (Fld Z h an "gatherwick/maps/RedBlackTree$Node" "parent" "Lgatherwick/maps/RedBlackTree$Node;" (.ref n1)) ∧ (Fld Z h an "gatherwick/maps/RedBlackTree$Node" "red" "Z" (.int (1 : Int32))) ∧ (Fld Z h n1 "gatherwick/maps/RedBlackTree$Node" "key" "Ljava/lang/Object;" (.ref x1)) ∧ (Fld Z h n1 "gatherwick/maps/RedBlackTree$Node" "value" "Ljava/lang/Object;" (.ref y1)) ∧ (Fld Z h n1 "gatherwick/maps/RedBlackTree$Node" "right" "Lgatherwick/maps/RedBlackTree$Node;" (.ref an)) ∧ (Fld Z h n1 "gatherwick/maps/RedBlackTree$Node" "left" "Lgatherwick/maps/RedBlackTree$Node;" vo) ∧ (Fld Z h n1 "gatherwick/maps/RedBlackTree$Node" "parent" "Lgatherwick/maps/RedBlackTree$Node;" .null) ∧ (Fld Z h n1 "gatherwick/maps/RedBlackTree$Node" "red" "Z" (.int (0 : Int32))) ∧ (Fld Z h am "gatherwick/maps/GwTreeMap" "comparator" "Ljava/util/Comparator;" .null) ∧ (Fld Z h am "gatherwick/maps/GwTreeMap" "root" "Lgatherwick/maps/RedBlackTree$Node;" (.ref n1)) ∧ (Fld Z h am "gatherwick/maps/GwTreeMap" "size" "I" (.int (sz + (1 : Int32)))) ∧ (Fld Z h am "gatherwick/maps/GwTreeMap" "modCount" "I" (.int (mc + (1 : Int32))))
theorem rmMOr (l : Launch) (Z : State) (a0 : Array Value) (hw : ∀ d ∈ tables_1, d.before a0 Z = true) (ws : List Jvm.Cond) (am : Addr) (ap : Addr) (ak : Addr) (av : Addr) (sz : Int32) (mc : Int32) (n1 : Addr) (x1 : Addr) (y1 : Addr) (vo : Value) (h0 : Heap) (n0 : Nat) (Z0 : n0 ≤ h0.size) (Em : Exa Z h0 am "gatherwick/maps/GwTreeMap") (gm : n0 ≤ am) (m_comparator : Fld Z h0 am "gatherwick/maps/GwTreeMap" "comparator" "Ljava/util/Comparator;" .null) (m_root : Fld Z h0 am "gatherwick/maps/GwTreeMap" "root" "Lgatherwick/maps/RedBlackTree$Node;" (.ref n1)) (m_size : Fld Z h0 am "gatherwick/maps/GwTreeMap" "size" "I" (.int sz)) (m_modCount : Fld Z h0 am "gatherwick/maps/GwTreeMap" "modCount" "I" (.int mc)) (Ep : Exa Z h0 ap "gatherwick/maps/GwTreeMap$Place") (P_p : Fld Z h0 ap "gatherwick/maps/GwTreeMap$Place" "parent" "Lgatherwick/maps/RedBlackTree$Node;" (.ref n1)) (P_l : Fld Z h0 ap "gatherwick/maps/GwTreeMap$Place" "left" "Z" (.int (0 : Int32))) (hz : ¬ (sz = (2147483639 : Int32))) (E_n1 : Exa Z h0 n1 "gatherwick/maps/RedBlackTree$Node") (g_n1 : n0 ≤ n1) (c_key : Fld Z h0 n1 "gatherwick/maps/RedBlackTree$Node" "key" "Ljava/lang/Object;" (.ref x1)) (c_value : Fld Z h0 n1 "gatherwick/maps/RedBlackTree$Node" "value" "Ljava/lang/Object;" (.ref y1)) (c_right : Fld Z h0 n1 "gatherwick/maps/RedBlackTree$Node" "right" "Lgatherwick/maps/RedBlackTree$Node;" .null) (c_left : Fld Z h0 n1 "gatherwick/maps/RedBlackTree$Node" "left" "Lgatherwick/maps/RedBlackTree$Node;" vo) (c_parent : Fld Z h0 n1 "gatherwick/maps/RedBlackTree$Node" "parent" "Lgatherwick/maps/RedBlackTree$Node;" .null) (c_red : Fld Z h0 n1 "gatherwick/maps/RedBlackTree$Node" "red" "Z" (.int (0 : Int32))) :
    MetFree l (⟨"gatherwick/maps/GwTreeMap", "link", "(Lgatherwick/maps/GwTreeMap$Place;Ljava/lang/Object;Ljava/lang/Object;)V"⟩ : MethodName) (head1 (Jvm.Cond.code (⟨"gatherwick/maps/GwTreeMap", "link", "(Lgatherwick/maps/GwTreeMap$Place;Ljava/lang/Object;Ljava/lang/Object;)V"⟩ : MethodName) prog_46_method_92_code 4 none :: ws) ({ frames := 3, cells := 1, slots := 6, locals := 44 } : Room)) (fun aA U => aA = #[(.ref am), (.ref ap), (.ref ak), (.ref av)] ∧ Z.Warmed39 U.vm ∧ U.heap = h0) (fun _ _ _ _ _ => True) (fun _ U o U' => ∃ v L, o = .returned v ∧ Q_rmMOr Z am ap ak av sz mc n1 x1 y1 vo h0 n0 v U'.heap L ∧ FrameEnd U o U' L ({ frames := 3, cells := 1, slots := 6, locals := 44 } : Room).cells ({ frames := 3, cells := 1, slots := 6, locals := 44 } : Room).slots) := by
  refine MetFree.of_bodySF (plainFor_of_name pn_gatherwick_maps_GwTreeMap) hisR ?_
  intro p e s m args below meth c s₁ Bd hml0 hP hK
  obtain ⟨rfl, hZ, hh⟩ := hP
  have hx := Bd.exec
  have hby := Bd.bytes
  have hml : c.maxLocals = 4 := hml0
  have hown : s.vm.findClass "gatherwick/maps/GwTreeMap" = some m.cls := findClass_of_methodNamed Bd.named
  have hnm := (name_of_methodNamed Bd.named Bd.method).1
  have hret := Bd.returns
  have hlk : meth.locks = false := BodyLoose.notSynchronized Bd
  have X0 : Stand p l e ({ frames := 3, cells := 1, slots := 6, locals := 44 } : Room) s m #[(.ref am), (.ref ap), (.ref ak), (.ref av)] below meth c s₁ [] 0 0 := Stand.of_body Bd
  have e0 : s₁.heap = h0 := by rw [← hh, Bd.state]; rfl
  have N0 := Fr.nil n0
  suffices hgo : Go p e below s ({ frames := 3, cells := 1, slots := 6, locals := 44 } : Room).cells ({ frames := 3, cells := 1, slots := 6, locals := 44 } : Room).slots (Q_rmMOr Z am ap ak av sz mc n1 x1 y1 vo h0 n0) s₁ (mkF m 0 #[.val (.ref am), .val (.ref ap), .val (.ref ak), .val (.ref av)] []) from hgo.enter (ef_rmMOr m am ap ak av)
  refine Go.step (fun _ k => XS.aloadN X0.here hx rfl (hb hby d21_0) rfl rfl k) ?_
  obtain ⟨T414, X414, e414, st414⟩ := getF X0 hx hZ hown (host := "") (Or.inl (own_w hw 21 rfl)) Via.refl e0 m_size (g := (mkF m 1 #[.val (.ref am), .val (.ref ap), .val (.ref ak), .val (.ref av)] [(.ref am)])) rfl rfl (hb hby d21_1)
  refine Go.step st414 ?_
  show Go _ _ _ _ _ _ _ T414 (mkF m 4 #[.val (.ref am), .val (.ref ap), .val (.ref ak), .val (.ref av)] [(.int sz)])
  obtain ⟨_, _, ⟨T415, L415, k415, n415⟩, -, X415, ⟨Lc415, hQ415, l415, y415, z415⟩, st415⟩ := Jvm.LawKit.callS X414 hx (y := (⟨"gatherwick/maps/GwTreeMap", "checkRoom", "(I)V"⟩ : MethodName)) hown (mvT hZ (own_w hw 114 rfl)) (mvT hZ (own_w hw 115 rfl)) (mvT hZ (own_w hw 2 rfl)) (mvT hZ (own_w hw 116 rfl)) (by decide) (backOf (W := 0) (rmCr l Z a0 hw [] sz h0 n0 Z0 hz) hZ (own_w hw 116 rfl) (own_w hw 2 rfl) (by decide) (by decide)) (g := (mkF m 4 #[.val (.ref am), .val (.ref ap), .val (.ref ak), .val (.ref av)] [(.int sz)])) rfl (by rw [hml]; rfl) (argsL := [(.int sz)]) (rest := []) (lenOf pd__I_V rfl) rfl (by show 2 * 0 + _ ≤ _; exact Nat.le_of_eq rfl) (hb hby d21_4) (fun _ _ => ⟨rfl, e414, (by decide : 0 + 0 ≤ _), (by decide : 0 + 0 ≤ _)⟩)
  dsimp only [Pt.U, Pt.locs, Pt.cells, Pt.slots] at X415 l415 y415 z415 st415 hQ415
  subst l415 y415 z415
  obtain ⟨h415, e415⟩ : ∃ h, T415.heap = h := ⟨_, rfl⟩
  rw [e415] at hQ415
  obtain ⟨rfl, Nq415, hs415⟩ := hQ415
  have N415 := Fr.app N0 Nq415
  rw [hs415] at e415
  refine Go.step st415 ?_
  show Go _ _ _ _ _ _ _ T415 (mkF m 7 #[.val (.ref am), .val (.ref ap), .val (.ref ak), .val (.ref av)] [])
  refine Go.step (fun _ k => XS.aloadN X415.here hx rfl (hb hby d21_7) rfl rfl k) ?_
  refine Go.step (fun _ k => XS.aloadN X415.here hx rfl (hb hby d21_8) rfl rfl k) ?_
  obtain ⟨T416, X416, e416, st416⟩ := getF X415 hx hZ hown (host := "") (Or.inl (own_w hw 52 rfl)) Via.refl e415 m_root (g := (mkF m 9 #[.val (.ref am), .val (.ref ap), .val (.ref ak), .val (.ref av)] [(.ref am), (.ref am)])) rfl rfl (hb hby d21_9)
  refine Go.step st416 ?_
  show Go _ _ _ _ _ _ _ T416 (mkF m 12 #[.val (.ref am), .val (.ref ap), .val (.ref ak), .val (.ref av)] [(.ref n1), (.ref am)])
  obtain ⟨T417, h417, X417, e417, E417, A417, D417, -, st417⟩ := newO X416 hx hZ hown (own_w hw 118 rfl) (own_w hw 119 rfl) (own_w hw 120 rfl) e416 (g := (mkF m 12 #[.val (.ref am), .val (.ref ap), .val (.ref ak), .val (.ref av)] [(.ref n1), (.ref am)])) rfl (hb hby d21_12) (by decide) (by decide)
  obtain ⟨b417, g417⟩ : ∃ z, z = h0.size := ⟨_, rfl⟩
  rw [← g417] at A417 D417 st417
  refine Go.step st417 ?_
  have g_b417 : n0 ≤ b417 := Nat.le_trans Z0 (Nat.le_of_eq g417.symm)
  have sz_b417 : h0.size ≤ b417 := Nat.le_trans (Keep.refl h0 [am, n1]).1 (Nat.le_of_eq g417.symm)
  have ne_am_b417 : am ≠ b417 := Nat.ne_of_lt (Nat.lt_of_lt_of_le Em.lt (Nat.le_of_eq g417.symm))
  have ne_ap_b417 : ap ≠ b417 := Nat.ne_of_lt (Nat.lt_of_lt_of_le Ep.lt (Nat.le_of_eq g417.symm))
  have ne_n1_b417 : n1 ≠ b417 := Nat.ne_of_lt (Nat.lt_of_lt_of_le E_n1.lt (Nat.le_of_eq g417.symm))
  have Z417 : n0 ≤ h417.size := Nat.le_trans Z0 E417.1
  have KK417 := (Keep.refl h0 [am, n1]).ext E417
  have Fred_417 : Fld Z h417 b417 "gatherwick/maps/RedBlackTree$Node" "red" "Z" (.int (0 : Int32)) := D417 (Or.inl (own_w hw 133 rfl)) (ty := .boolean) (by decide)
  have Fkey_417 : Fld Z h417 b417 "gatherwick/maps/RedBlackTree$Node" "key" "Ljava/lang/Object;" .null := D417 (Or.inr (own_w hw 135 rfl)) (ty := (.object "java/lang/Object")) (by decide)
  have Fvalue_417 : Fld Z h417 b417 "gatherwick/maps/RedBlackTree$Node" "value" "Ljava/lang/Object;" .null := D417 (Or.inl (own_w hw 137 rfl)) (ty := (.object "java/lang/Object")) (by decide)
  have Fparent_417 : Fld Z h417 b417 "gatherwick/maps/RedBlackTree$Node" "parent" "Lgatherwick/maps/RedBlackTree$Node;" .null := D417 (Or.inl (own_w hw 139 rfl)) (ty := (.object "gatherwick/maps/RedBlackTree$Node")) (by decide)
  have Fright_417 : Fld Z h417 b417 "gatherwick/maps/RedBlackTree$Node" "right" "Lgatherwick/maps/RedBlackTree$Node;" .null := D417 (Or.inl (own_w hw 176 rfl)) (ty := (.object "gatherwick/maps/RedBlackTree$Node")) (by decide)
  have Fleft_417 : Fld Z h417 b417 "gatherwick/maps/RedBlackTree$Node" "left" "Lgatherwick/maps/RedBlackTree$Node;" .null := D417 (Or.inl (own_w hw 179 rfl)) (ty := (.object "gatherwick/maps/RedBlackTree$Node")) (by decide)
  show Go _ _ _ _ _ _ _ T417 (mkF m 15 #[.val (.ref am), .val (.ref ap), .val (.ref ak), .val (.ref av)] [(.ref b417), (.ref n1), (.ref am)])
  refine Go.step (fun _ k => XS.dup X417.here hx rfl (hb hby d21_15) rfl rfl k) ?_
  refine Go.step (fun _ k => XS.aloadN X417.here hx rfl (hb hby d21_16) rfl rfl k) ?_
  refine Go.step (fun _ k => XS.aloadN X417.here hx rfl (hb hby d21_17) rfl rfl k) ?_
  refine Go.step (fun _ k => XS.aloadN X417.here hx rfl (hb hby d21_18) rfl rfl k) ?_
  have f418 := (P_p.ext E417)
  obtain ⟨T419, X419, e419, st419⟩ := getF X417 hx hZ hown (host := "") (Or.inl (own_w hw 121 rfl)) Via.refl e417 f418 (g := (mkF m 19 #[.val (.ref am), .val (.ref ap), .val (.ref ak), .val (.ref av)] [(.ref ap), (.ref av), (.ref ak), (.ref b417), (.ref b417), (.ref n1), (.ref am)])) rfl rfl (hb hby d21_19)
  refine Go.step st419 ?_
  show Go _ _ _ _ _ _ _ T419 (mkF m 22 #[.val (.ref am), .val (.ref ap), .val (.ref ak), .val (.ref av)] [(.ref n1), (.ref av), (.ref ak), (.ref b417), (.ref b417), (.ref n1), (.ref am)])
  obtain ⟨_, _, ⟨T420, L420, k420, n420⟩, -, X420, ⟨Lc420, hQ420, l420, y420, z420⟩, st420⟩ := X419.specialBack hx (y := (⟨"gatherwick/maps/RedBlackTree$Node", "<init>", "(Ljava/lang/Object;Ljava/lang/Object;Lgatherwick/maps/RedBlackTree$Node;)V"⟩ : MethodName)) rfl hown (mvT hZ (own_w hw 123 rfl)) (mvT hZ (own_w hw 124 rfl)) (mvT hZ (own_w hw 125 rfl)) (by decide) (backOf (W := 3) (rmNi l Z a0 hw [] b417 ak av (.ref n1) h417 n0 Z417 A417 g_b417 Fkey_417 Fvalue_417 Fleft_417 Fright_417 Fparent_417 Fred_417 rfl) hZ (own_w hw 125 rfl) (own_w hw 120 rfl) (by decide) (by decide)) (g := (mkF m 22 #[.val (.ref am), .val (.ref ap), .val (.ref ak), .val (.ref av)] [(.ref n1), (.ref av), (.ref ak), (.ref b417), (.ref b417), (.ref n1), (.ref am)])) rfl (by rw [hml]; rfl) (Steps.refl _) (a := b417) (argsL := [(.ref ak), (.ref av), (.ref n1)]) (rest := [(.ref b417), (.ref n1), (.ref am)]) (lenOf pd__Ljava_lang_Object_Ljava_lang_Object_Lgatherwick_maps_RedBlackTree_Node__V rfl) rfl (by show 2 * 0 + _ ≤ _; exact Nat.le_of_eq rfl) (hb hby d21_22) (fun _ _ => ⟨rfl, e419, (by decide : 1 + 0 ≤ _), (by decide : 6 + 0 ≤ _)⟩)
  dsimp only [Pt.U, Pt.locs, Pt.cells, Pt.slots] at X420 l420 y420 z420 st420 hQ420
  subst l420 y420 z420
  obtain ⟨h420, e420⟩ : ∃ h, T420.heap = h := ⟨_, rfl⟩
  rw [e420] at hQ420
  obtain ⟨rfl, Nq420, Kq420, b_key_420, b_value_420, b_left_420, b_right_420, b_parent_420, b_red_420⟩ := hQ420
  have N420 := Fr.app N415 Nq420
  have Z420 : n0 ≤ h420.size := Nat.le_trans Z417 Kq420.1
  have KK420 := KK417.trans Kq420 (allS (Or.inr sz_b417) all0)
  refine Go.trans st420 ?_
  show Go _ _ _ _ _ _ _ T420 (mkF m 25 #[.val (.ref am), .val (.ref ap), .val (.ref ak), .val (.ref av)] [(.ref b417), (.ref n1), (.ref am)])
  refine Go.step (fun _ k => XS.aloadN X420.here hx rfl (hb hby d21_25) rfl rfl k) ?_
  have f421 := ((P_l.ext E417).keep Kq420 (ninS ne_ap_b417 nin0))
  obtain ⟨T422, X422, e422, st422⟩ := getF X420 hx hZ hown (host := "") (Or.inl (own_w hw 140 rfl)) Via.refl e420 f421 (g := (mkF m 26 #[.val (.ref am), .val (.ref ap), .val (.ref ak), .val (.ref av)] [(.ref ap), (.ref b417), (.ref n1), (.ref am)])) rfl rfl (hb hby d21_26)
  refine Go.step st422 ?_
  show Go _ _ _ _ _ _ _ T422 (mkF m 29 #[.val (.ref am), .val (.ref ap), .val (.ref ak), .val (.ref av)] [(.int (0 : Int32)), (.ref b417), (.ref n1), (.ref am)])
  have f424 := (A417.keep Kq420)
  have f425 := ((E_n1.ext E417).keep Kq420)
  have f426 := ((c_key.ext E417).keep Kq420 (ninS ne_n1_b417 nin0))
  have f427 := ((c_value.ext E417).keep Kq420 (ninS ne_n1_b417 nin0))
  have f428 := ((c_right.ext E417).keep Kq420 (ninS ne_n1_b417 nin0))
  have f429 := ((c_left.ext E417).keep Kq420 (ninS ne_n1_b417 nin0))
  have f430 := ((c_parent.ext E417).keep Kq420 (ninS ne_n1_b417 nin0))
  have f431 := ((c_red.ext E417).keep Kq420 (ninS ne_n1_b417 nin0))
  obtain ⟨_, _, ⟨T423, L423, k423, n423⟩, -, X423, ⟨Lc423, hQ423, l423, y423, z423⟩, st423⟩ := Jvm.LawKit.callS X422 hx (y := (⟨"gatherwick/maps/RedBlackTree", "link", "(Lgatherwick/maps/RedBlackTree$Node;Lgatherwick/maps/RedBlackTree$Node;Z)Lgatherwick/maps/RedBlackTree$Node;"⟩ : MethodName)) hown (mvT hZ (own_w hw 142 rfl)) (mvT hZ (own_w hw 143 rfl)) (mvT hZ (own_w hw 144 rfl)) (mvT hZ (own_w hw 145 rfl)) (by decide) (backOf (W := 1) (rmKOr l Z a0 hw [] n1 b417 x1 y1 vo ak av h420 n0 Z420 f424 g_b417 (Ne.symm ne_n1_b417) b_key_420 b_value_420 b_left_420 b_right_420 b_parent_420 b_red_420 f425 g_n1 f426 f427 f428 f429 f430 f431) hZ (own_w hw 145 rfl) (own_w hw 144 rfl) (by decide) (by decide)) (g := (mkF m 29 #[.val (.ref am), .val (.ref ap), .val (.ref ak), .val (.ref av)] [(.int (0 : Int32)), (.ref b417), (.ref n1), (.ref am)])) rfl (by rw [hml]; rfl) (argsL := [(.ref n1), (.ref b417), (.int (0 : Int32))]) (rest := [(.ref am)]) (lenOf pd__Lgatherwick_maps_RedBlackTree_Node_Lgatherwick_maps_RedBlackTree_Node_Z_Lgatherwick_maps_RedBlackTree_Node_ rfl) rfl (by show 2 * 0 + _ ≤ _; exact Nat.le_of_eq rfl) (hb hby d21_29) (fun _ _ => ⟨rfl, e422, (by decide : 1 + 0 ≤ _), (by decide : 6 + 0 ≤ _)⟩)
  dsimp only [Pt.U, Pt.locs, Pt.cells, Pt.slots] at X423 l423 y423 z423 st423 hQ423
  subst l423 y423 z423
  obtain ⟨h423, e423⟩ : ∃ h, T423.heap = h := ⟨_, rfl⟩
  rw [e423] at hQ423
  obtain ⟨rfl, Nq423, Kq423, d_key_423, d_value_423, d_right_423, d_left_423, d_parent_423, d_red_423⟩ := hQ423
  have N423 := Fr.app N420 Nq423
  have Z423 : n0 ≤ h423.size := Nat.le_trans Z420 Kq423.1
  have KK423 := KK420.trans Kq423 (allS (Or.inl (List.mem_of_getElem? (i := 1) rfl)) all0)
  refine Go.step st423 ?_
  show Go _ _ _ _ _ _ _ T423 (mkF m 32 #[.val (.ref am), .val (.ref ap), .val (.ref ak), .val (.ref av)] [(.ref n1), (.ref am)])
  have f432 := (((Em.ext E417).keep Kq420).keep Kq423)
  have f433 := (f425.keep Kq423)
  have nx434 : am ≠ n1 := Exa.ne f432 f433 (by decide)
  have f435 := (((m_root.ext E417).keep Kq420 (ninS ne_am_b417 nin0)).keep Kq423 (ninS nx434 nin0))
  obtain ⟨T436, h436, X436, e436, W436, st436⟩ := putF X423 hx hZ hown (host := "") (Or.inl (own_w hw 52 rfl)) Via.refl e423 f435 f432 (Or.inl (own_w hw 53 rfl)) (own_w hw 1 rfl) (ty := (.object "gatherwick/maps/RedBlackTree$Node")) (by decide) rfl rfl (g := (mkF m 32 #[.val (.ref am), .val (.ref ap), .val (.ref ak), .val (.ref av)] [(.ref n1), (.ref am)])) rfl rfl (hb hby d21_32)
  refine Go.step st436 ?_
  have Fw436 := f435.same W436
  have N436 := Fr.snoc X436 N423 gm
  have Z436 : n0 ≤ h436.size := Nat.le_trans Z423 (Keep.of_wr W436).1
  have KK436 := KK423.wr W436 (Or.inl (List.mem_of_getElem? (i := 0) rfl))
  show Go _ _ _ _ _ _ _ T436 (mkF m 35 #[.val (.ref am), .val (.ref ap), .val (.ref ak), .val (.ref av)] [])
  refine Go.step (fun _ k => XS.aloadN X436.here hx rfl (hb hby d21_35) rfl rfl k) ?_
  refine Go.step (fun _ k => XS.dup X436.here hx rfl (hb hby d21_36) rfl rfl k) ?_
  have f437 := ((((m_size.ext E417).keep Kq420 (ninS ne_am_b417 nin0)).keep Kq423 (ninS nx434 nin0)).other W436 (Or.inr (slot_ne (a0 := a0) (C := "gatherwick/maps/GwTreeMap") (Or.inl (own_w hw 22 rfl)) (Or.inl (own_w hw 53 rfl)) (by decide) (t := .int) (t' := (.object "gatherwick/maps/RedBlackTree$Node")) (by decide) (by decide))))
  obtain ⟨T438, X438, e438, st438⟩ := getF X436 hx hZ hown (host := "") (Or.inl (own_w hw 21 rfl)) Via.refl e436 f437 (g := (mkF m 37 #[.val (.ref am), .val (.ref ap), .val (.ref ak), .val (.ref av)] [(.ref am), (.ref am)])) rfl rfl (hb hby d21_37)
  refine Go.step st438 ?_
  show Go _ _ _ _ _ _ _ T438 (mkF m 40 #[.val (.ref am), .val (.ref ap), .val (.ref ak), .val (.ref av)] [(.int sz), (.ref am)])
  refine Go.step (fun _ k => XS.iconst X438.here hx rfl (hb hby d21_40) k) ?_
  refine Go.step (fun _ k => XS.iadd X438.here hx rfl (hb hby d21_41) rfl k) ?_
  have f439 := (f432.wr W436)
  obtain ⟨T440, h440, X440, e440, W440, st440⟩ := putF X438 hx hZ hown (host := "") (Or.inl (own_w hw 21 rfl)) Via.refl e438 f437 f439 (Or.inl (own_w hw 22 rfl)) (own_w hw 1 rfl) (ty := .int) (by decide) rfl rfl (g := (mkF m 42 #[.val (.ref am), .val (.ref ap), .val (.ref ak), .val (.ref av)] [(.int (sz + (1 : Int32))), (.ref am)])) rfl rfl (hb hby d21_42)
  refine Go.step st440 ?_
  have Fw440 := f437.same W440
  have N440 := Fr.snoc X440 N436 gm
  have Z440 : n0 ≤ h440.size := Nat.le_trans Z436 (Keep.of_wr W440).1
  have KK440 := KK436.wr W440 (Or.inl (List.mem_of_getElem? (i := 0) rfl))
  show Go _ _ _ _ _ _ _ T440 (mkF m 45 #[.val (.ref am), .val (.ref ap), .val (.ref ak), .val (.ref av)] [])
  refine Go.step (fun _ k => XS.aloadN X440.here hx rfl (hb hby d21_45) rfl rfl k) ?_
  refine Go.step (fun _ k => XS.dup X440.here hx rfl (hb hby d21_46) rfl rfl k) ?_
  have f441 := (((((m_modCount.ext E417).keep Kq420 (ninS ne_am_b417 nin0)).keep Kq423 (ninS nx434 nin0)).other W436 (Or.inr (slot_ne (a0 := a0) (C := "gatherwick/maps/GwTreeMap") (Or.inl (own_w hw 155 rfl)) (Or.inl (own_w hw 53 rfl)) (by decide) (t := .int) (t' := (.object "gatherwick/maps/RedBlackTree$Node")) (by decide) (by decide)))).other W440 (Or.inr (slot_ne (a0 := a0) (C := "gatherwick/maps/GwTreeMap") (Or.inl (own_w hw 155 rfl)) (Or.inl (own_w hw 22 rfl)) (by decide) (t := .int) (t' := .int) (by decide) (by decide))))
  obtain ⟨T442, X442, e442, st442⟩ := getF X440 hx hZ hown (host := "") (Or.inl (own_w hw 154 rfl)) Via.refl e440 f441 (g := (mkF m 47 #[.val (.ref am), .val (.ref ap), .val (.ref ak), .val (.ref av)] [(.ref am), (.ref am)])) rfl rfl (hb hby d21_47)
  refine Go.step st442 ?_
  show Go _ _ _ _ _ _ _ T442 (mkF m 50 #[.val (.ref am), .val (.ref ap), .val (.ref ak), .val (.ref av)] [(.int mc), (.ref am)])
  refine Go.step (fun _ k => XS.iconst X442.here hx rfl (hb hby d21_50) k) ?_
  refine Go.step (fun _ k => XS.iadd X442.here hx rfl (hb hby d21_51) rfl k) ?_
  have f443 := (f439.wr W440)
  obtain ⟨T444, h444, X444, e444, W444, st444⟩ := putF X442 hx hZ hown (host := "") (Or.inl (own_w hw 154 rfl)) Via.refl e442 f441 f443 (Or.inl (own_w hw 155 rfl)) (own_w hw 1 rfl) (ty := .int) (by decide) rfl rfl (g := (mkF m 52 #[.val (.ref am), .val (.ref ap), .val (.ref ak), .val (.ref av)] [(.int (mc + (1 : Int32))), (.ref am)])) rfl rfl (hb hby d21_52)
  refine Go.step st444 ?_
  have Fw444 := f441.same W444
  have N444 := Fr.snoc X444 N440 gm
  have Z444 : n0 ≤ h444.size := Nat.le_trans Z440 (Keep.of_wr W444).1
  have KK444 := KK440.wr W444 (Or.inl (List.mem_of_getElem? (i := 0) rfl))
  show Go _ _ _ _ _ _ _ T444 (mkF m 55 #[.val (.ref am), .val (.ref ap), .val (.ref ak), .val (.ref av)] [])
  have f445 := ((((f424.keep Kq423).wr W436).wr W440).wr W444)
  have f446 := ((((b_key_420.keep Kq423 (ninS (Ne.symm ne_n1_b417) nin0)).other W436 (Or.inl (Ne.symm ne_am_b417))).other W440 (Or.inl (Ne.symm ne_am_b417))).other W444 (Or.inl (Ne.symm ne_am_b417)))
  have f447 := ((((b_value_420.keep Kq423 (ninS (Ne.symm ne_n1_b417) nin0)).other W436 (Or.inl (Ne.symm ne_am_b417))).other W440 (Or.inl (Ne.symm ne_am_b417))).other W444 (Or.inl (Ne.symm ne_am_b417)))
  have f448 := ((((b_left_420.keep Kq423 (ninS (Ne.symm ne_n1_b417) nin0)).other W436 (Or.inl (Ne.symm ne_am_b417))).other W440 (Or.inl (Ne.symm ne_am_b417))).other W444 (Or.inl (Ne.symm ne_am_b417)))
  have f449 := ((((b_right_420.keep Kq423 (ninS (Ne.symm ne_n1_b417) nin0)).other W436 (Or.inl (Ne.symm ne_am_b417))).other W440 (Or.inl (Ne.symm ne_am_b417))).other W444 (Or.inl (Ne.symm ne_am_b417)))
  have f450 := ((((b_parent_420.keep Kq423 (ninS (Ne.symm ne_n1_b417) nin0)).other W436 (Or.inl (Ne.symm ne_am_b417))).other W440 (Or.inl (Ne.symm ne_am_b417))).other W444 (Or.inl (Ne.symm ne_am_b417)))
  have f451 := ((((b_red_420.keep Kq423 (ninS (Ne.symm ne_n1_b417) nin0)).other W436 (Or.inl (Ne.symm ne_am_b417))).other W440 (Or.inl (Ne.symm ne_am_b417))).other W444 (Or.inl (Ne.symm ne_am_b417)))
  have f452 := (((d_key_423.other W436 (Or.inl (Ne.symm nx434))).other W440 (Or.inl (Ne.symm nx434))).other W444 (Or.inl (Ne.symm nx434)))
  have f453 := (((d_value_423.other W436 (Or.inl (Ne.symm nx434))).other W440 (Or.inl (Ne.symm nx434))).other W444 (Or.inl (Ne.symm nx434)))
  have f454 := (((d_right_423.other W436 (Or.inl (Ne.symm nx434))).other W440 (Or.inl (Ne.symm nx434))).other W444 (Or.inl (Ne.symm nx434)))
  have f455 := (((d_left_423.other W436 (Or.inl (Ne.symm nx434))).other W440 (Or.inl (Ne.symm nx434))).other W444 (Or.inl (Ne.symm nx434)))
  have f456 := (((d_parent_423.other W436 (Or.inl (Ne.symm nx434))).other W440 (Or.inl (Ne.symm nx434))).other W444 (Or.inl (Ne.symm nx434)))
  have f457 := (((d_red_423.other W436 (Or.inl (Ne.symm nx434))).other W440 (Or.inl (Ne.symm nx434))).other W444 (Or.inl (Ne.symm nx434)))
  have f458 := ((((((m_comparator.ext E417).keep Kq420 (ninS ne_am_b417 nin0)).keep Kq423 (ninS nx434 nin0)).other W436 (Or.inr (slot_ne (a0 := a0) (C := "gatherwick/maps/GwTreeMap") (Or.inr (own_w hw 15 rfl)) (Or.inl (own_w hw 53 rfl)) (by decide) (t := (.object "java/util/Comparator")) (t' := (.object "gatherwick/maps/RedBlackTree$Node")) (by decide) (by decide)))).other W440 (Or.inr (slot_ne (a0 := a0) (C := "gatherwick/maps/GwTreeMap") (Or.inr (own_w hw 15 rfl)) (Or.inl (own_w hw 22 rfl)) (by decide) (t := (.object "java/util/Comparator")) (t' := .int) (by decide) (by decide)))).other W444 (Or.inr (slot_ne (a0 := a0) (C := "gatherwick/maps/GwTreeMap") (Or.inr (own_w hw 15 rfl)) (Or.inl (own_w hw 155 rfl)) (by decide) (t := (.object "java/util/Comparator")) (t' := .int) (by decide) (by decide))))
  have f459 := ((Fw436.other W440 (Or.inr (slot_ne (a0 := a0) (C := "gatherwick/maps/GwTreeMap") (Or.inl (own_w hw 53 rfl)) (Or.inl (own_w hw 22 rfl)) (by decide) (t := (.object "gatherwick/maps/RedBlackTree$Node")) (t' := .int) (by decide) (by decide)))).other W444 (Or.inr (slot_ne (a0 := a0) (C := "gatherwick/maps/GwTreeMap") (Or.inl (own_w hw 53 rfl)) (Or.inl (own_w hw 155 rfl)) (by decide) (t := (.object "gatherwick/maps/RedBlackTree$Node")) (t' := .int) (by decide) (by decide))))
  have f460 := (Fw440.other W444 (Or.inr (slot_ne (a0 := a0) (C := "gatherwick/maps/GwTreeMap") (Or.inl (own_w hw 22 rfl)) (Or.inl (own_w hw 155 rfl)) (by decide) (t := .int) (t' := .int) (by decide) (by decide))))
  exact Go.ret0 X444 hx hret hlk (hb hby d21_55) e444 (by decide) (by decide) ⟨b417, rfl, N444, KK444, sz_b417, f445, f446, f447, f448, f449, f450, f451, f452, f453, f454, f455, f456, f457, f458, f459, f460, Fw444⟩
theorem ef_rmIOr (m : MethodId) (am : Addr) (ak : Addr) (av : Addr) : entryFrame m #[(.ref am), .null, (.ref ak), (.ref av)] 5 = mkF m 0 #[.val (.ref am), .val .null, .val (.ref ak), .val (.ref av), .unset] [] := by first | (simp [entryFrame, mkF, argsToLocals, Value.category]; done) | rfl
def Q_rmIOr (Z : State) (am : Addr) (ak : Addr) (av : Addr) (kv : Int32) (sz : Int32) (mc : Int32) (n1 : Addr) (x1 : Addr) (y1 : Addr) (vo : Value) (ky1 : Int32) (tl : List (Addr × Addr × Int32)) (h0 : Heap) (n0 : Nat) (v : Option Value) (h : Heap) (L : List Loc) : Prop := ∃ an : Addr, (v = some .null) ∧ (Fr n0 L) ∧ (Keep h0 h [am, n1]) ∧ (h0.size ≤ an) ∧ (Exa Z h an "gatherwick/maps/RedBlackTree$Node") ∧ (Fld Z h an "gatherwick/maps/RedBlackTree$Node" "key" "Ljava/lang/Object;" (.ref ak)) ∧ (Fld Z h an "gatherwick/maps/RedBlackTree$Node" "value" "Ljava/lang/Object;" (.ref av)) ∧ (Fld Z h an "gatherwick/maps/RedBlackTree$Node" "left" "Lgatherwick/maps/RedBlackTree$Node;" .null) ∧ (Fld Z h an "gatherwick/maps/RedBlackTree$Node" "right" "Lgatherwick/maps/RedBlackTree$Node;" .null) ∧ (Fld Z h an "gatherwick/maps/RedBlackTree$Node" "parent" "Lgatherwick/maps/RedBlackTree$Node;" (.ref n1)) ∧ (Fld Z h an "gatherwick/maps/RedBlackTree$Node" "red" "Z" (.int (1 : Int32))) ∧ (Fld Z h n1 "gatherwick/maps/RedBlackTree$Node" "key" "Ljava/lang/Object;" (.ref x1)) ∧ (Fld Z h n1 "gatherwick/maps/RedBlackTree$Node" "value" "Ljava/lang/Object;" (.ref y1)) ∧ (Fld Z h n1 "gatherwick/maps/RedBlackTree$Node" "right" "Lgatherwick/maps/RedBlackTree$Node;" (.ref an)) ∧ (Fld Z h n1 "gatherwick/maps/RedBlackTree$Node" "left" "Lgatherwick/maps/RedBlackTree$Node;" vo) ∧ (Fld Z h n1 "gatherwick/maps/RedBlackTree$Node" "parent" "Lgatherwick/maps/RedBlackTree$Node;" .null) ∧ (Fld Z h n1 "gatherwick/maps/RedBlackTree$Node" "red" "Z" (.int (0 : Int32))) ∧ (Fld Z h am "gatherwick/maps/GwTreeMap" "comparator" "Ljava/util/Comparator;" .null) ∧ (Fld Z h am "gatherwick/maps/GwTreeMap" "root" "Lgatherwick/maps/RedBlackTree$Node;" (.ref n1)) ∧ (Fld Z h am "gatherwick/maps/GwTreeMap" "size" "I" (.int (sz + (1 : Int32)))) ∧ (Fld Z h am "gatherwick/maps/GwTreeMap" "modCount" "I" (.int (mc + (1 : Int32))))
theorem rmIOr (l : Launch) (Z : State) (a0 : Array Value) (hw : ∀ d ∈ tables_1, d.before a0 Z = true) (ws : List Jvm.Cond) (am : Addr) (ak : Addr) (av : Addr) (kv : Int32) (sz : Int32) (mc : Int32) (n1 : Addr) (x1 : Addr) (y1 : Addr) (vo : Value) (ky1 : Int32) (tl : List (Addr × Addr × Int32)) (h0 : Heap) (n0 : Nat) (Z0 : n0 ≤ h0.size) (Em : Exa Z h0 am "gatherwick/maps/GwTreeMap") (gm : n0 ≤ am) (m_comparator : Fld Z h0 am "gatherwick/maps/GwTreeMap" "comparator" "Ljava/util/Comparator;" .null) (m_root : Fld Z h0 am "gatherwick/maps/GwTreeMap" "root" "Lgatherwick/maps/RedBlackTree$Node;" (.ref n1)) (m_size : Fld Z h0 am "gatherwick/maps/GwTreeMap" "size" "I" (.int sz)) (m_modCount : Fld Z h0 am "gatherwick/maps/GwTreeMap" "modCount" "I" (.int mc)) (Ek : Exa Z h0 ak "java/lang/Integer") (Fk : Fld Z h0 ak "java/lang/Integer" "value" "I" (.int kv)) (HT : own_HT Z h0 kv ((n1, x1, ky1) :: tl)) (hn : own_sn kv ((n1, x1, ky1) :: tl) = .null) (hp : own_sp kv ((n1, x1, ky1) :: tl) .null = (.ref n1)) (hl : own_sl kv ((n1, x1, ky1) :: tl) 0 = (0 : Int32)) (hz : ¬ (sz = (2147483639 : Int32))) (E_n1 : Exa Z h0 n1 "gatherwick/maps/RedBlackTree$Node") (g_n1 : n0 ≤ n1) (c_key : Fld Z h0 n1 "gatherwick/maps/RedBlackTree$Node" "key" "Ljava/lang/Object;" (.ref x1)) (c_value : Fld Z h0 n1 "gatherwick/maps/RedBlackTree$Node" "value" "Ljava/lang/Object;" (.ref y1)) (c_right : Fld Z h0 n1 "gatherwick/maps/RedBlackTree$Node" "right" "Lgatherwick/maps/RedBlackTree$Node;" .null) (c_left : Fld Z h0 n1 "gatherwick/maps/RedBlackTree$Node" "left" "Lgatherwick/maps/RedBlackTree$Node;" vo) (c_parent : Fld Z h0 n1 "gatherwick/maps/RedBlackTree$Node" "parent" "Lgatherwick/maps/RedBlackTree$Node;" .null) (c_red : Fld Z h0 n1 "gatherwick/maps/RedBlackTree$Node" "red" "Z" (.int (0 : Int32))) :
    MetFree l (⟨"gatherwick/maps/GwTreeMap", "putIn", "(Lgatherwick/maps/GwTreeMap$SubMap;Ljava/lang/Object;Ljava/lang/Object;)Ljava/lang/Object;"⟩ : MethodName) (head1 (Jvm.Cond.code (⟨"gatherwick/maps/GwTreeMap", "putIn", "(Lgatherwick/maps/GwTreeMap$SubMap;Ljava/lang/Object;Ljava/lang/Object;)Ljava/lang/Object;"⟩ : MethodName) prog_46_method_69_code 5 (some (.object "java/lang/Object")) :: ws) ({ frames := 8, cells := 2, slots := 9, locals := 115 } : Room)) (fun aA U => aA = #[(.ref am), .null, (.ref ak), (.ref av)] ∧ Z.Warmed39 U.vm ∧ U.heap = h0) (fun _ _ _ _ _ => True) (fun _ U o U' => ∃ v L, o = .returned v ∧ Q_rmIOr Z am ak av kv sz mc n1 x1 y1 vo ky1 tl h0 n0 v U'.heap L ∧ FrameEnd U o U' L ({ frames := 8, cells := 2, slots := 9, locals := 115 } : Room).cells ({ frames := 8, cells := 2, slots := 9, locals := 115 } : Room).slots) := by
  refine MetFree.of_bodySF (plainFor_of_name pn_gatherwick_maps_GwTreeMap) hisR ?_
  intro p e s m args below meth c s₁ Bd hml0 hP hK
  obtain ⟨rfl, hZ, hh⟩ := hP
  have hx := Bd.exec
  have hby := Bd.bytes
  have hml : c.maxLocals = 5 := hml0
  have hown : s.vm.findClass "gatherwick/maps/GwTreeMap" = some m.cls := findClass_of_methodNamed Bd.named
  have hnm := (name_of_methodNamed Bd.named Bd.method).1
  have hret := Bd.returns
  have hlk : meth.locks = false := BodyLoose.notSynchronized Bd
  have X0 : Stand p l e ({ frames := 8, cells := 2, slots := 9, locals := 115 } : Room) s m #[(.ref am), .null, (.ref ak), (.ref av)] below meth c s₁ [] 0 0 := Stand.of_body Bd
  have e0 : s₁.heap = h0 := by rw [← hh, Bd.state]; rfl
  have N0 := Fr.nil n0
  suffices hgo : Go p e below s ({ frames := 8, cells := 2, slots := 9, locals := 115 } : Room).cells ({ frames := 8, cells := 2, slots := 9, locals := 115 } : Room).slots (Q_rmIOr Z am ak av kv sz mc n1 x1 y1 vo ky1 tl h0 n0) s₁ (mkF m 0 #[.val (.ref am), .val .null, .val (.ref ak), .val (.ref av), .unset] []) from hgo.enter (ef_rmIOr m am ak av)
  refine Go.step (fun _ k => XS.aloadN X0.here hx rfl (hb hby d17_0) rfl rfl k) ?_
  refine Go.step (fun _ k => XS.aloadN X0.here hx rfl (hb hby d17_1) rfl rfl k) ?_
  refine Go.step (fun _ k => XS.aloadN X0.here hx rfl (hb hby d17_2) rfl rfl k) ?_
  obtain ⟨cq461, q461, q461'⟩ := Em.cell
  obtain ⟨_, _, ⟨T461, L461, k461, n461⟩, -, X461, ⟨Lc461, hQ461, l461, y461, z461⟩, st461⟩ := X0.privateBack hx (y := (⟨"gatherwick/maps/GwTreeMap", "locateToAdd", "(Lgatherwick/maps/GwTreeMap$SubMap;Ljava/lang/Object;)Lgatherwick/maps/GwTreeMap$Place;"⟩ : MethodName)) hown (mvT hZ (own_w hw 93 rfl)) (mvT hZ (own_w hw 94 rfl)) (own_selp (mvT hZ (own_w hw 1 rfl)) (Cond.privateMethod_at (mvP hZ (own_w hw 95 rfl) (args := #[]))) (mvT hZ (own_w hw 94 rfl)) (by decide)) (Cond.privateMethod_at (mvP hZ (own_w hw 95 rfl) (args := #[]))) (mvT hZ (own_w hw 96 rfl)) (by decide) (backOf (W := 0) (rmLa l Z a0 hw [] am ak kv ((n1, x1, ky1) :: tl) .null (.ref n1) (0 : Int32) h0 n0 Z0 Em m_comparator m_root Ek Fk HT rfl hn hp hl) hZ (own_w hw 96 rfl) (own_w hw 2 rfl) (by decide) (by decide)) (g := (mkF m 3 #[.val (.ref am), .val .null, .val (.ref ak), .val (.ref av), .unset] [(.ref ak), .null, (.ref am)])) rfl (by rw [hml]; rfl) (Steps.refl _) (a := am) (by rw [e0]; exact q461) q461' (argsL := [.null, (.ref ak)]) (rest := []) (lenOf pd__Lgatherwick_maps_GwTreeMap_SubMap_Ljava_lang_Object__Lgatherwick_maps_GwTreeMap_Place_ rfl) rfl (by show 2 * 0 + _ ≤ _; exact Nat.le_of_eq rfl) (hb hby d17_3) (fun _ _ => ⟨rfl, e0, (by decide : 0 + 1 ≤ _), (by decide : 0 + 3 ≤ _)⟩)
  dsimp only [Pt.U, Pt.locs, Pt.cells, Pt.slots] at X461 l461 y461 z461 st461 hQ461
  subst l461 y461 z461
  obtain ⟨h461, e461⟩ : ∃ h, T461.heap = h := ⟨_, rfl⟩
  rw [e461] at hQ461
  obtain ⟨ap_461, rfl, Nq461, Kq461, sz__461, Ep_461, Qn_461, Qp_461, Ql_461⟩ := hQ461
  have N461 := Fr.app N0 Nq461
  have Z461 : n0 ≤ h461.size := Nat.le_trans Z0 Kq461.1
  have KK461 := (Keep.refl h0 [am, n1]).trans Kq461 all0
  have g_ap_461 : n0 ≤ ap_461 := Nat.le_trans Z0 sz__461
  have sz_ap_461 : h0.size ≤ ap_461 := Nat.le_trans (Keep.refl h0 [am, n1]).1 sz__461
  have ne_ak_ap_461 : ak ≠ ap_461 := Nat.ne_of_lt (Nat.lt_of_lt_of_le Ek.lt sz__461)
  have ne_am_ap_461 : am ≠ ap_461 := Nat.ne_of_lt (Nat.lt_of_lt_of_le Em.lt sz__461)
  have ne_n1_ap_461 : n1 ≠ ap_461 := Nat.ne_of_lt (Nat.lt_of_lt_of_le E_n1.lt sz__461)
  have Ql_461 : Fld Z h461 ap_461 "gatherwick/maps/GwTreeMap$Place" "left" "Z" (.int (0 : Int32)) := Ql_461
  refine Go.trans st461 ?_
  show Go _ _ _ _ _ _ _ T461 (mkF m 6 #[.val (.ref am), .val .null, .val (.ref ak), .val (.ref av), .unset] [(.ref ap_461)])
  refine Go.step (fun _ k => XS.astore X461.here hx rfl (hb hby d17_6) rfl rfl (l' := #[.val (.ref am), .val .null, .val (.ref ak), .val (.ref av), .val (.ref ap_461)]) rfl k) ?_
  show Go _ _ _ _ _ _ _ T461 (mkF m 8 #[.val (.ref am), .val .null, .val (.ref ak), .val (.ref av), .val (.ref ap_461)] [])
  refine Go.step (fun _ k => XS.aload X461.here hx rfl (hb hby d17_8) rfl rfl k) ?_
  obtain ⟨T462, X462, e462, st462⟩ := getF X461 hx hZ hown (host := "") (Or.inl (own_w hw 108 rfl)) Via.refl e461 Qn_461 (g := (mkF m 10 #[.val (.ref am), .val .null, .val (.ref ak), .val (.ref av), .val (.ref ap_461)] [(.ref ap_461)])) rfl rfl (hb hby d17_10)
  refine Go.step st462 ?_
  show Go _ _ _ _ _ _ _ T462 (mkF m 13 #[.val (.ref am), .val .null, .val (.ref ak), .val (.ref av), .val (.ref ap_461)] [.null])
  refine Go.step (fun _ k => XS.ifnullYes X462.here hx rfl (pc0 := 13) (pc' := 26) rfl (hb hby d17_13) rfl (by decide) (by decide) k) ?_
  show Go _ _ _ _ _ _ _ T462 (mkF m 26 #[.val (.ref am), .val .null, .val (.ref ak), .val (.ref av), .val (.ref ap_461)] [])
  refine Go.step (fun _ k => XS.aloadN X462.here hx rfl (hb hby d17_26) rfl rfl k) ?_
  refine Go.step (fun _ k => XS.aload X462.here hx rfl (hb hby d17_27) rfl rfl k) ?_
  refine Go.step (fun _ k => XS.aloadN X462.here hx rfl (hb hby d17_29) rfl rfl k) ?_
  refine Go.step (fun _ k => XS.aloadN X462.here hx rfl (hb hby d17_30) rfl rfl k) ?_
  have f464 := (Em.keep Kq461)
  have f465 := (m_comparator.keep Kq461 nin0)
  have f466 := (m_root.keep Kq461 nin0)
  have f467 := (m_size.keep Kq461 nin0)
  have f468 := (m_modCount.keep Kq461 nin0)
  have f469 := (E_n1.keep Kq461)
  have f470 := (c_key.keep Kq461 nin0)
  have f471 := (c_value.keep Kq461 nin0)
  have f472 := (c_right.keep Kq461 nin0)
  have f473 := (c_left.keep Kq461 nin0)
  have f474 := (c_parent.keep Kq461 nin0)
  have f475 := (c_red.keep Kq461 nin0)
  obtain ⟨cq463, q463, q463'⟩ := f464.cell
  obtain ⟨_, _, ⟨T463, L463, k463, n463⟩, -, X463, ⟨Lc463, hQ463, l463, y463, z463⟩, st463⟩ := X462.privateBack hx (y := (⟨"gatherwick/maps/GwTreeMap", "link", "(Lgatherwick/maps/GwTreeMap$Place;Ljava/lang/Object;Ljava/lang/Object;)V"⟩ : MethodName)) hown (mvT hZ (own_w hw 110 rfl)) (mvT hZ (own_w hw 111 rfl)) (own_selp (mvT hZ (own_w hw 1 rfl)) (Cond.privateMethod_at (mvP hZ (own_w hw 112 rfl) (args := #[]))) (mvT hZ (own_w hw 111 rfl)) (by decide)) (Cond.privateMethod_at (mvP hZ (own_w hw 112 rfl) (args := #[]))) (mvT hZ (own_w hw 113 rfl)) (by decide) (backOf (W := 0) (rmMOr l Z a0 hw [] am ap_461 ak av sz mc n1 x1 y1 vo h461 n0 Z461 f464 gm f465 f466 f467 f468 Ep_461 Qp_461 Ql_461 hz f469 g_n1 f470 f471 f472 f473 f474 f475) hZ (own_w hw 113 rfl) (own_w hw 2 rfl) (by decide) (by decide)) (g := (mkF m 31 #[.val (.ref am), .val .null, .val (.ref ak), .val (.ref av), .val (.ref ap_461)] [(.ref av), (.ref ak), (.ref ap_461), (.ref am)])) rfl (by rw [hml]; rfl) (Steps.refl _) (a := am) (by rw [e462]; exact q463) q463' (argsL := [(.ref ap_461), (.ref ak), (.ref av)]) (rest := []) (lenOf pd__Lgatherwick_maps_GwTreeMap_Place_Ljava_lang_Object_Ljava_lang_Object__V rfl) rfl (by show 2 * 0 + _ ≤ _; exact Nat.le_of_eq rfl) (hb hby d17_31) (fun _ _ => ⟨rfl, e462, (by decide : 1 + 1 ≤ _), (by decide : 3 + 6 ≤ _)⟩)
  dsimp only [Pt.U, Pt.locs, Pt.cells, Pt.slots] at X463 l463 y463 z463 st463 hQ463
  subst l463 y463 z463
  obtain ⟨h463, e463⟩ : ∃ h, T463.heap = h := ⟨_, rfl⟩
  rw [e463] at hQ463
  have f476 := (Ek.keep Kq461)
  obtain ⟨an_463, rfl, Nq463, Kq463, szn_463, E_n_463, b_key_463, b_value_463, b_left_463, b_right_463, b_parent_463, b_red_463, d_key_463, d_value_463, d_right_463, d_left_463, d_parent_463, d_red_463, q_comparator_463, q_root_463, q_size_463, q_modCount_463⟩ := hQ463
  have N463 := Fr.app N461 Nq463
  have Z463 : n0 ≤ h463.size := Nat.le_trans Z461 Kq463.1
  have KK463 := KK461.trans Kq463 (allS (Or.inl (List.mem_of_getElem? (i := 0) rfl)) (allS (Or.inl (List.mem_of_getElem? (i := 1) rfl)) all0))
  have g_an_463 : n0 ≤ an_463 := Nat.le_trans Z461 szn_463
  have sz_an_463 : h0.size ≤ an_463 := Nat.le_trans KK461.1 szn_463
  have ne_ak_an_463 : ak ≠ an_463 := Nat.ne_of_lt (Nat.lt_of_lt_of_le f476.lt szn_463)
  have ne_am_an_463 : am ≠ an_463 := Nat.ne_of_lt (Nat.lt_of_lt_of_le f464.lt szn_463)
  have ne_ap_461_an_463 : ap_461 ≠ an_463 := Nat.ne_of_lt (Nat.lt_of_lt_of_le Ep_461.lt szn_463)
  have ne_n1_an_463 : n1 ≠ an_463 := Nat.ne_of_lt (Nat.lt_of_lt_of_le f469.lt szn_463)
  refine Go.trans st463 ?_
  show Go _ _ _ _ _ _ _ T463 (mkF m 34 #[.val (.ref am), .val .null, .val (.ref ak), .val (.ref av), .val (.ref ap_461)] [])
  refine Go.step (fun _ k => XS.aconstNull X463.here hx rfl (hb hby d17_34) k) ?_
  exact Go.retA X463 hx hret hlk rfl rfl (hb hby d17_35) e463 (by decide) (by decide) ⟨an_463, rfl, N463, KK463, sz_an_463, E_n_463, b_key_463, b_value_463, b_left_463, b_right_463, b_parent_463, b_red_463, d_key_463, d_value_463, d_right_463, d_left_463, d_parent_463, d_red_463, q_comparator_463, q_root_463, q_size_463, q_modCount_463⟩
theorem ef_rmUOr (m : MethodId) (am : Addr) (ak : Addr) (av : Addr) : entryFrame m #[(.ref am), (.ref ak), (.ref av)] 3 = mkF m 0 #[.val (.ref am), .val (.ref ak), .val (.ref av)] [] := by first | (simp [entryFrame, mkF, argsToLocals, Value.category]; done) | rfl
def Q_rmUOr (Z : State) (am : Addr) (ak : Addr) (av : Addr) (kv : Int32) (sz : Int32) (mc : Int32) (n1 : Addr) (x1 : Addr) (y1 : Addr) (vo : Value) (ky1 : Int32) (tl : List (Addr × Addr × Int32)) (h0 : Heap) (n0 : Nat) (v : Option Value) (h : Heap) (L : List Loc) : Prop := ∃ an : Addr, (v = some .null) ∧ (Fr n0 L) ∧ (Keep h0 h [am, n1]) ∧ (h0.size ≤ an) ∧ (Exa Z h an "gatherwick/maps/RedBlackTree$Node") ∧ (Fld Z h an "gatherwick/maps/RedBlackTree$Node" "key" "Ljava/lang/Object;" (.ref ak)) ∧ (Fld Z h an "gatherwick/maps/RedBlackTree$Node" "value" "Ljava/lang/Object;" (.ref av)) ∧ (Fld Z h an "gatherwick/maps/RedBlackTree$Node" "left" "Lgatherwick/maps/RedBlackTree$Node;" .null) ∧ (Fld Z h an "gatherwick/maps/RedBlackTree$Node" "right" "Lgatherwick/maps/RedBlackTree$Node;" .null) ∧ (Fld Z h an "gatherwick/maps/RedBlackTree$Node" "parent" "Lgatherwick/maps/RedBlackTree$Node;" (.ref n1)) ∧ (Fld Z h an "gatherwick/maps/RedBlackTree$Node" "red" "Z" (.int (1 : Int32))) ∧ (Fld Z h n1 "gatherwick/maps/RedBlackTree$Node" "key" "Ljava/lang/Object;" (.ref x1)) ∧ (Fld Z h n1 "gatherwick/maps/RedBlackTree$Node" "value" "Ljava/lang/Object;" (.ref y1)) ∧ (Fld Z h n1 "gatherwick/maps/RedBlackTree$Node" "right" "Lgatherwick/maps/RedBlackTree$Node;" (.ref an)) ∧ (Fld Z h n1 "gatherwick/maps/RedBlackTree$Node" "left" "Lgatherwick/maps/RedBlackTree$Node;" vo) ∧ (Fld Z h n1 "gatherwick/maps/RedBlackTree$Node" "parent" "Lgatherwick/maps/RedBlackTree$Node;" .null) ∧ (Fld Z h n1 "gatherwick/maps/RedBlackTree$Node" "red" "Z" (.int (0 : Int32))) ∧ (Fld Z h am "gatherwick/maps/GwTreeMap" "comparator" "Ljava/util/Comparator;" .null) ∧ (Fld Z h am "gatherwick/maps/GwTreeMap" "root" "Lgatherwick/maps/RedBlackTree$Node;" (.ref n1)) ∧ (Fld Z h am "gatherwick/maps/GwTreeMap" "size" "I" (.int (sz + (1 : Int32)))) ∧ (Fld Z h am "gatherwick/maps/GwTreeMap" "modCount" "I" (.int (mc + (1 : Int32))))
theorem rmUOr (l : Launch) (Z : State) (a0 : Array Value) (hw : ∀ d ∈ tables_1, d.before a0 Z = true) (ws : List Jvm.Cond) (am : Addr) (ak : Addr) (av : Addr) (kv : Int32) (sz : Int32) (mc : Int32) (n1 : Addr) (x1 : Addr) (y1 : Addr) (vo : Value) (ky1 : Int32) (tl : List (Addr × Addr × Int32)) (h0 : Heap) (n0 : Nat) (Z0 : n0 ≤ h0.size) (Em : Exa Z h0 am "gatherwick/maps/GwTreeMap") (gm : n0 ≤ am) (m_comparator : Fld Z h0 am "gatherwick/maps/GwTreeMap" "comparator" "Ljava/util/Comparator;" .null) (m_root : Fld Z h0 am "gatherwick/maps/GwTreeMap" "root" "Lgatherwick/maps/RedBlackTree$Node;" (.ref n1)) (m_size : Fld Z h0 am "gatherwick/maps/GwTreeMap" "size" "I" (.int sz)) (m_modCount : Fld Z h0 am "gatherwick/maps/GwTreeMap" "modCount" "I" (.int mc)) (Ek : Exa Z h0 ak "java/lang/Integer") (Fk : Fld Z h0 ak "java/lang/Integer" "value" "I" (.int kv)) (HT : own_HT Z h0 kv ((n1, x1, ky1) :: tl)) (hn : own_sn kv ((n1, x1, ky1) :: tl) = .null) (hp : own_sp kv ((n1, x1, ky1) :: tl) .null = (.ref n1)) (hl : own_sl kv ((n1, x1, ky1) :: tl) 0 = (0 : Int32)) (hz : ¬ (sz = (2147483639 : Int32))) (E_n1 : Exa Z h0 n1 "gatherwick/maps/RedBlackTree$Node") (g_n1 : n0 ≤ n1) (c_key : Fld Z h0 n1 "gatherwick/maps/RedBlackTree$Node" "key" "Ljava/lang/Object;" (.ref x1)) (c_value : Fld Z h0 n1 "gatherwick/maps/RedBlackTree$Node" "value" "Ljava/lang/Object;" (.ref y1)) (c_right : Fld Z h0 n1 "gatherwick/maps/RedBlackTree$Node" "right" "Lgatherwick/maps/RedBlackTree$Node;" .null) (c_left : Fld Z h0 n1 "gatherwick/maps/RedBlackTree$Node" "left" "Lgatherwick/maps/RedBlackTree$Node;" vo) (c_parent : Fld Z h0 n1 "gatherwick/maps/RedBlackTree$Node" "parent" "Lgatherwick/maps/RedBlackTree$Node;" .null) (c_red : Fld Z h0 n1 "gatherwick/maps/RedBlackTree$Node" "red" "Z" (.int (0 : Int32))) :
    MetFree l (⟨"gatherwick/maps/GwTreeMap", "put", "(Ljava/lang/Object;Ljava/lang/Object;)Ljava/lang/Object;"⟩ : MethodName) (head1 (Jvm.Cond.code (⟨"gatherwick/maps/GwTreeMap", "put", "(Ljava/lang/Object;Ljava/lang/Object;)Ljava/lang/Object;"⟩ : MethodName) prog_46_method_16_code 3 (some (.object "java/lang/Object")) :: ws) ({ frames := 9, cells := 2, slots := 9, locals := 131 } : Room)) (fun aA U => aA = #[(.ref am), (.ref ak), (.ref av)] ∧ Z.Warmed39 U.vm ∧ U.heap = h0) (fun _ _ _ _ _ => True) (fun _ U o U' => ∃ v L, o = .returned v ∧ Q_rmUOr Z am ak av kv sz mc n1 x1 y1 vo ky1 tl h0 n0 v U'.heap L ∧ FrameEnd U o U' L ({ frames := 9, cells := 2, slots := 9, locals := 131 } : Room).cells ({ frames := 9, cells := 2, slots := 9, locals := 131 } : Room).slots) := by
  refine MetFree.of_bodySF (plainFor_of_name pn_gatherwick_maps_GwTreeMap) hisR ?_
  intro p e s m args below meth c s₁ Bd hml0 hP hK
  obtain ⟨rfl, hZ, hh⟩ := hP
  have hx := Bd.exec
  have hby := Bd.bytes
  have hml : c.maxLocals = 3 := hml0
  have hown : s.vm.findClass "gatherwick/maps/GwTreeMap" = some m.cls := findClass_of_methodNamed Bd.named
  have hnm := (name_of_methodNamed Bd.named Bd.method).1
  have hret := Bd.returns
  have hlk : meth.locks = false := BodyLoose.notSynchronized Bd
  have X0 : Stand p l e ({ frames := 9, cells := 2, slots := 9, locals := 131 } : Room) s m #[(.ref am), (.ref ak), (.ref av)] below meth c s₁ [] 0 0 := Stand.of_body Bd
  have e0 : s₁.heap = h0 := by rw [← hh, Bd.state]; rfl
  have N0 := Fr.nil n0
  suffices hgo : Go p e below s ({ frames := 9, cells := 2, slots := 9, locals := 131 } : Room).cells ({ frames := 9, cells := 2, slots := 9, locals := 131 } : Room).slots (Q_rmUOr Z am ak av kv sz mc n1 x1 y1 vo ky1 tl h0 n0) s₁ (mkF m 0 #[.val (.ref am), .val (.ref ak), .val (.ref av)] []) from hgo.enter (ef_rmUOr m am ak av)
  refine Go.step (fun _ k => XS.aloadN X0.here hx rfl (hb hby d16_0) rfl rfl k) ?_
  refine Go.step (fun _ k => XS.aconstNull X0.here hx rfl (hb hby d16_1) k) ?_
  refine Go.step (fun _ k => XS.aloadN X0.here hx rfl (hb hby d16_2) rfl rfl k) ?_
  refine Go.step (fun _ k => XS.aloadN X0.here hx rfl (hb hby d16_3) rfl rfl k) ?_
  obtain ⟨cq477, q477, q477'⟩ := Em.cell
  obtain ⟨_, _, ⟨T477, L477, k477, n477⟩, -, X477, ⟨Lc477, hQ477, l477, y477, z477⟩, st477⟩ := X0.privateBack hx (y := (⟨"gatherwick/maps/GwTreeMap", "putIn", "(Lgatherwick/maps/GwTreeMap$SubMap;Ljava/lang/Object;Ljava/lang/Object;)Ljava/lang/Object;"⟩ : MethodName)) hown (mvT hZ (own_w hw 89 rfl)) (mvT hZ (own_w hw 90 rfl)) (own_selp (mvT hZ (own_w hw 1 rfl)) (Cond.privateMethod_at (mvP hZ (own_w hw 91 rfl) (args := #[]))) (mvT hZ (own_w hw 90 rfl)) (by decide)) (Cond.privateMethod_at (mvP hZ (own_w hw 91 rfl) (args := #[]))) (mvT hZ (own_w hw 92 rfl)) (by decide) (backOf (W := 0) (rmIOr l Z a0 hw [] am ak av kv sz mc n1 x1 y1 vo ky1 tl h0 n0 Z0 Em gm m_comparator m_root m_size m_modCount Ek Fk HT hn hp hl hz E_n1 g_n1 c_key c_value c_right c_left c_parent c_red) hZ (own_w hw 92 rfl) (own_w hw 2 rfl) (by decide) (by decide)) (g := (mkF m 4 #[.val (.ref am), .val (.ref ak), .val (.ref av)] [(.ref av), (.ref ak), .null, (.ref am)])) rfl (by rw [hml]; rfl) (Steps.refl _) (a := am) (by rw [e0]; exact q477) q477' (argsL := [.null, (.ref ak), (.ref av)]) (rest := []) (lenOf pd__Lgatherwick_maps_GwTreeMap_SubMap_Ljava_lang_Object_Ljava_lang_Object__Ljava_lang_Object_ rfl) rfl (by show 2 * 0 + _ ≤ _; exact Nat.le_of_eq rfl) (hb hby d16_4) (fun _ _ => ⟨rfl, e0, (by decide : 0 + 2 ≤ _), (by decide : 0 + 9 ≤ _)⟩)
  dsimp only [Pt.U, Pt.locs, Pt.cells, Pt.slots] at X477 l477 y477 z477 st477 hQ477
  subst l477 y477 z477
  obtain ⟨h477, e477⟩ : ∃ h, T477.heap = h := ⟨_, rfl⟩
  rw [e477] at hQ477
  obtain ⟨an_477, rfl, Nq477, Kq477, szn_477, E_n_477, b_key_477, b_value_477, b_left_477, b_right_477, b_parent_477, b_red_477, d_key_477, d_value_477, d_right_477, d_left_477, d_parent_477, d_red_477, q_comparator_477, q_root_477, q_size_477, q_modCount_477⟩ := hQ477
  have N477 := Fr.app N0 Nq477
  have Z477 : n0 ≤ h477.size := Nat.le_trans Z0 Kq477.1
  have KK477 := (Keep.refl h0 [am, n1]).trans Kq477 (allS (Or.inl (List.mem_of_getElem? (i := 0) rfl)) (allS (Or.inl (List.mem_of_getElem? (i := 1) rfl)) all0))
  have g_an_477 : n0 ≤ an_477 := Nat.le_trans Z0 szn_477
  have sz_an_477 : h0.size ≤ an_477 := Nat.le_trans (Keep.refl h0 [am, n1]).1 szn_477
  have ne_ak_an_477 : ak ≠ an_477 := Nat.ne_of_lt (Nat.lt_of_lt_of_le Ek.lt szn_477)
  have ne_am_an_477 : am ≠ an_477 := Nat.ne_of_lt (Nat.lt_of_lt_of_le Em.lt szn_477)
  have ne_n1_an_477 : n1 ≠ an_477 := Nat.ne_of_lt (Nat.lt_of_lt_of_le E_n1.lt szn_477)
  refine Go.trans st477 ?_
  show Go _ _ _ _ _ _ _ T477 (mkF m 7 #[.val (.ref am), .val (.ref ak), .val (.ref av)] [.null])
  exact Go.retA X477 hx hret hlk rfl rfl (hb hby d16_7) e477 (by decide) (by decide) ⟨an_477, rfl, N477, KK477, sz_an_477, E_n_477, b_key_477, b_value_477, b_left_477, b_right_477, b_parent_477, b_red_477, d_key_477, d_value_477, d_right_477, d_left_477, d_parent_477, d_red_477, q_comparator_477, q_root_477, q_size_477, q_modCount_477⟩
theorem ef_rmBWll (m : MethodId) (n1 : Addr) (n3 : Addr) : entryFrame m #[(.ref n1), (.ref n3)] 5 = mkF m 0 #[.val (.ref n1), .val (.ref n3), .unset, .unset, .unset] [] := by first | (simp [entryFrame, mkF, argsToLocals, Value.category]; done) | rfl
def Q_rmBWll (Z : State) (n1 : Addr) (n3 : Addr) (n2 : Addr) (h0 : Heap) (n0 : Nat) (v : Option Value) (h : Heap) (L : List Loc) : Prop := (v = some (.ref n2)) ∧ (Fr n0 L) ∧ (Keep h0 h [n1, n2])
theorem rmBWll (l : Launch) (Z : State) (a0 : Array Value) (hw : ∀ d ∈ tables_1, d.before a0 Z = true) (ws : List Jvm.Cond) (n1 : Addr) (n3 : Addr) (n2 : Addr) (h0 : Heap) (n0 : Nat) (Z0 : n0 ≤ h0.size) (E_n1 : Exa Z h0 n1 "gatherwick/maps/RedBlackTree$Node") (g_n1 : n0 ≤ n1) (E_n2 : Exa Z h0 n2 "gatherwick/maps/RedBlackTree$Node") (g_n2 : n0 ≤ n2) (E_n3 : Exa Z h0 n3 "gatherwick/maps/RedBlackTree$Node") (g_n3 : n0 ≤ n3) (ne12 : n1 ≠ n2) (ne13 : n1 ≠ n3) (ne23 : n2 ≠ n3) (c_left : Fld Z h0 n1 "gatherwick/maps/RedBlackTree$Node" "left" "Lgatherwick/maps/RedBlackTree$Node;" (.ref n2)) (c_right : Fld Z h0 n1 "gatherwick/maps/RedBlackTree$Node" "right" "Lgatherwick/maps/RedBlackTree$Node;" .null) (c_parent : Fld Z h0 n1 "gatherwick/maps/RedBlackTree$Node" "parent" "Lgatherwick/maps/RedBlackTree$Node;" .null) (c_red : Fld Z h0 n1 "gatherwick/maps/RedBlackTree$Node" "red" "Z" (.int (0 : Int32))) (d_left : Fld Z h0 n2 "gatherwick/maps/RedBlackTree$Node" "left" "Lgatherwick/maps/RedBlackTree$Node;" (.ref n3)) (d_right : Fld Z h0 n2 "gatherwick/maps/RedBlackTree$Node" "right" "Lgatherwick/maps/RedBlackTree$Node;" .null) (d_parent : Fld Z h0 n2 "gatherwick/maps/RedBlackTree$Node" "parent" "Lgatherwick/maps/RedBlackTree$Node;" (.ref n1)) (d_red : Fld Z h0 n2 "gatherwick/maps/RedBlackTree$Node" "red" "Z" (.int (1 : Int32))) (a_left : Fld Z h0 n3 "gatherwick/maps/RedBlackTree$Node" "left" "Lgatherwick/maps/RedBlackTree$Node;" .null) (a_right : Fld Z h0 n3 "gatherwick/maps/RedBlackTree$Node" "right" "Lgatherwick/maps/RedBlackTree$Node;" .null) (a_parent : Fld Z h0 n3 "gatherwick/maps/RedBlackTree$Node" "parent" "Lgatherwick/maps/RedBlackTree$Node;" (.ref n2)) (a_red : Fld Z h0 n3 "gatherwick/maps/RedBlackTree$Node" "red" "Z" (.int (1 : Int32))) :
    MetFree l (⟨"gatherwick/maps/RedBlackTree", "rebalanceAfterLink", "(Lgatherwick/maps/RedBlackTree$Node;Lgatherwick/maps/RedBlackTree$Node;)Lgatherwick/maps/RedBlackTree$Node;"⟩ : MethodName) (head1 (Jvm.Cond.code (⟨"gatherwick/maps/RedBlackTree", "rebalanceAfterLink", "(Lgatherwick/maps/RedBlackTree$Node;Lgatherwick/maps/RedBlackTree$Node;)Lgatherwick/maps/RedBlackTree$Node;"⟩ : MethodName) prog_57_method_3_code 5 (some (.object "gatherwick/maps/RedBlackTree$Node")) :: ws) ({ frames := 2, cells := 0, slots := 0, locals := 29 } : Room)) (fun aA U => aA = #[(.ref n1), (.ref n3)] ∧ Z.Warmed39 U.vm ∧ U.heap = h0) (fun _ _ _ _ _ => True) (fun _ U o U' => ∃ v L, o = .returned v ∧ Q_rmBWll Z n1 n3 n2 h0 n0 v U'.heap L ∧ FrameEnd U o U' L ({ frames := 2, cells := 0, slots := 0, locals := 29 } : Room).cells ({ frames := 2, cells := 0, slots := 0, locals := 29 } : Room).slots) := by
  refine MetFree.of_bodySF (plainFor_of_name pn_gatherwick_maps_RedBlackTree) hisR ?_
  intro p e s m args below meth c s₁ Bd hml0 hP hK
  obtain ⟨rfl, hZ, hh⟩ := hP
  have hx := Bd.exec
  have hby := Bd.bytes
  have hml : c.maxLocals = 5 := hml0
  have hown : s.vm.findClass "gatherwick/maps/RedBlackTree" = some m.cls := findClass_of_methodNamed Bd.named
  have hnm := (name_of_methodNamed Bd.named Bd.method).1
  have hret := Bd.returns
  have hlk : meth.locks = false := BodyLoose.notSynchronized Bd
  have X0 : Stand p l e ({ frames := 2, cells := 0, slots := 0, locals := 29 } : Room) s m #[(.ref n1), (.ref n3)] below meth c s₁ [] 0 0 := Stand.of_body Bd
  have e0 : s₁.heap = h0 := by rw [← hh, Bd.state]; rfl
  have N0 := Fr.nil n0
  suffices hgo : Go p e below s ({ frames := 2, cells := 0, slots := 0, locals := 29 } : Room).cells ({ frames := 2, cells := 0, slots := 0, locals := 29 } : Room).slots (Q_rmBWll Z n1 n3 n2 h0 n0) s₁ (mkF m 0 #[.val (.ref n1), .val (.ref n3), .unset, .unset, .unset] []) from hgo.enter (ef_rmBWll m n1 n3)
  refine Go.step (fun _ k => XS.aloadN X0.here hx rfl (hb hby d26_0) rfl rfl k) ?_
  obtain ⟨T478, X478, e478, st478⟩ := getF X0 hx hZ hown (host := "") (Or.inl (own_w hw 146 rfl)) Via.refl e0 a_parent (g := (mkF m 1 #[.val (.ref n1), .val (.ref n3), .unset, .unset, .unset] [(.ref n3)])) rfl rfl (hb hby d26_1)
  refine Go.step st478 ?_
  show Go _ _ _ _ _ _ _ T478 (mkF m 4 #[.val (.ref n1), .val (.ref n3), .unset, .unset, .unset] [(.ref n2)])
  obtain ⟨_, _, ⟨T479, L479, k479, n479⟩, -, X479, ⟨Lc479, hQ479, l479, y479, z479⟩, st479⟩ := Jvm.LawKit.callS X478 hx (y := (⟨"gatherwick/maps/RedBlackTree", "isRed", "(Lgatherwick/maps/RedBlackTree$Node;)Z"⟩ : MethodName)) hown (mvT hZ (own_w hw 150 rfl)) (mvT hZ (own_w hw 151 rfl)) (mvT hZ (own_w hw 144 rfl)) (mvT hZ (own_w hw 152 rfl)) (by decide) (backOf (W := 0) (rmRo l Z a0 hw [] n2 h0 n0 Z0 d_red) hZ (own_w hw 152 rfl) (own_w hw 144 rfl) (by decide) (by decide)) (g := (mkF m 4 #[.val (.ref n1), .val (.ref n3), .unset, .unset, .unset] [(.ref n2)])) rfl (by rw [hml]; rfl) (argsL := [(.ref n2)]) (rest := []) (lenOf pd__Lgatherwick_maps_RedBlackTree_Node__Z rfl) rfl (by show 2 * 0 + _ ≤ _; exact Nat.le_of_eq rfl) (hb hby d26_4) (fun _ _ => ⟨rfl, e478, (by decide : 0 + 0 ≤ _), (by decide : 0 + 0 ≤ _)⟩)
  dsimp only [Pt.U, Pt.locs, Pt.cells, Pt.slots] at X479 l479 y479 z479 st479 hQ479
  subst l479 y479 z479
  obtain ⟨h479, e479⟩ : ∃ h, T479.heap = h := ⟨_, rfl⟩
  rw [e479] at hQ479
  obtain ⟨rfl, Nq479, hs479⟩ := hQ479
  have N479 := Fr.app N0 Nq479
  rw [hs479] at e479
  refine Go.step st479 ?_
  show Go _ _ _ _ _ _ _ T479 (mkF m 7 #[.val (.ref n1), .val (.ref n3), .unset, .unset, .unset] [(.int (1 : Int32))])
  have hc7_480 : ¬ ((1 : Int32) = (0 : Int32)) := (by decide)
  refine Go.step (fun _ k => XS.ifNo X479.here hx rfl (hb hby d26_7) rfl ((if0 _ _).trans (feq hc7_480).1) k) ?_
  show Go _ _ _ _ _ _ _ T479 (mkF m 10 #[.val (.ref n1), .val (.ref n3), .unset, .unset, .unset] [])
  refine Go.step (fun _ k => XS.aloadN X479.here hx rfl (hb hby d26_10) rfl rfl k) ?_
  obtain ⟨T481, X481, e481, st481⟩ := getF X479 hx hZ hown (host := "") (Or.inl (own_w hw 146 rfl)) Via.refl e479 a_parent (g := (mkF m 11 #[.val (.ref n1), .val (.ref n3), .unset, .unset, .unset] [(.ref n3)])) rfl rfl (hb hby d26_11)
  refine Go.step st481 ?_
  show Go _ _ _ _ _ _ _ T481 (mkF m 14 #[.val (.ref n1), .val (.ref n3), .unset, .unset, .unset] [(.ref n2)])
  refine Go.step (fun _ k => XS.astoreN X481.here hx rfl (hb hby d26_14) rfl rfl (l' := #[.val (.ref n1), .val (.ref n3), .val (.ref n2), .unset, .unset]) rfl k) ?_
  show Go _ _ _ _ _ _ _ T481 (mkF m 15 #[.val (.ref n1), .val (.ref n3), .val (.ref n2), .unset, .unset] [])
  refine Go.step (fun _ k => XS.aloadN X481.here hx rfl (hb hby d26_15) rfl rfl k) ?_
  obtain ⟨T482, X482, e482, st482⟩ := getF X481 hx hZ hown (host := "") (Or.inl (own_w hw 146 rfl)) Via.refl e481 d_parent (g := (mkF m 16 #[.val (.ref n1), .val (.ref n3), .val (.ref n2), .unset, .unset] [(.ref n2)])) rfl rfl (hb hby d26_16)
  refine Go.step st482 ?_
  show Go _ _ _ _ _ _ _ T482 (mkF m 19 #[.val (.ref n1), .val (.ref n3), .val (.ref n2), .unset, .unset] [(.ref n1)])
  refine Go.step (fun _ k => XS.astoreN X482.here hx rfl (hb hby d26_19) rfl rfl (l' := #[.val (.ref n1), .val (.ref n3), .val (.ref n2), .val (.ref n1), .unset]) rfl k) ?_
  show Go _ _ _ _ _ _ _ T482 (mkF m 20 #[.val (.ref n1), .val (.ref n3), .val (.ref n2), .val (.ref n1), .unset] [])
  refine Go.step (fun _ k => XS.aloadN X482.here hx rfl (hb hby d26_20) rfl rfl k) ?_
  refine Go.step (fun _ k => XS.aloadN X482.here hx rfl (hb hby d26_21) rfl rfl k) ?_
  obtain ⟨T483, X483, e483, st483⟩ := getF X482 hx hZ hown (host := "") (Or.inl (own_w hw 180 rfl)) Via.refl e482 c_left (g := (mkF m 22 #[.val (.ref n1), .val (.ref n3), .val (.ref n2), .val (.ref n1), .unset] [(.ref n1), (.ref n2)])) rfl rfl (hb hby d26_22)
  refine Go.step st483 ?_
  show Go _ _ _ _ _ _ _ T483 (mkF m 25 #[.val (.ref n1), .val (.ref n3), .val (.ref n2), .val (.ref n1), .unset] [(.ref n2), (.ref n2)])
  refine Go.step (fun _ k => Jvm.RoadKit.acmp (g := (mkF m 25 #[.val (.ref n1), .val (.ref n3), .val (.ref n2), .val (.ref n1), .unset] [(.ref n2), (.ref n2)])) X483 hx rfl rfl rfl (pc0 := 25) (pc' := 28) (same := true) rfl (hb hby d26_25) rfl (decide_eq_true rfl) (by decide) (by decide) k) ?_
  show Go _ _ _ _ _ _ _ T483 (mkF m 28 #[.val (.ref n1), .val (.ref n3), .val (.ref n2), .val (.ref n1), .unset] [])
  refine Go.step (fun _ k => XS.aloadN X483.here hx rfl (hb hby d26_28) rfl rfl k) ?_
  obtain ⟨T484, X484, e484, st484⟩ := getF X483 hx hZ hown (host := "") (Or.inl (own_w hw 177 rfl)) Via.refl e483 c_right (g := (mkF m 29 #[.val (.ref n1), .val (.ref n3), .val (.ref n2), .val (.ref n1), .unset] [(.ref n1)])) rfl rfl (hb hby d26_29)
  refine Go.step st484 ?_
  show Go _ _ _ _ _ _ _ T484 (mkF m 32 #[.val (.ref n1), .val (.ref n3), .val (.ref n2), .val (.ref n1), .unset] [.null])
  refine Go.step (fun _ k => XS.astore X484.here hx rfl (hb hby d26_32) rfl rfl (l' := #[.val (.ref n1), .val (.ref n3), .val (.ref n2), .val (.ref n1), .val .null]) rfl k) ?_
  show Go _ _ _ _ _ _ _ T484 (mkF m 34 #[.val (.ref n1), .val (.ref n3), .val (.ref n2), .val (.ref n1), .val .null] [])
  refine Go.step (fun _ k => XS.aload X484.here hx rfl (hb hby d26_34) rfl rfl k) ?_
  obtain ⟨_, _, ⟨T485, L485, k485, n485⟩, -, X485, ⟨Lc485, hQ485, l485, y485, z485⟩, st485⟩ := Jvm.LawKit.callS X484 hx (y := (⟨"gatherwick/maps/RedBlackTree", "isRed", "(Lgatherwick/maps/RedBlackTree$Node;)Z"⟩ : MethodName)) hown (mvT hZ (own_w hw 150 rfl)) (mvT hZ (own_w hw 151 rfl)) (mvT hZ (own_w hw 144 rfl)) (mvT hZ (own_w hw 152 rfl)) (by decide) (backOf (W := 0) (rmRn l Z a0 hw []  h0 n0 Z0 ) hZ (own_w hw 152 rfl) (own_w hw 144 rfl) (by decide) (by decide)) (g := (mkF m 36 #[.val (.ref n1), .val (.ref n3), .val (.ref n2), .val (.ref n1), .val .null] [.null])) rfl (by rw [hml]; rfl) (argsL := [.null]) (rest := []) (lenOf pd__Lgatherwick_maps_RedBlackTree_Node__Z rfl) rfl (by show 2 * 0 + _ ≤ _; exact Nat.le_of_eq rfl) (hb hby d26_36) (fun _ _ => ⟨rfl, e484, (by decide : 0 + 0 ≤ _), (by decide : 0 + 0 ≤ _)⟩)
  dsimp only [Pt.U, Pt.locs, Pt.cells, Pt.slots] at X485 l485 y485 z485 st485 hQ485
  subst l485 y485 z485
  obtain ⟨h485, e485⟩ : ∃ h, T485.heap = h := ⟨_, rfl⟩
  rw [e485] at hQ485
  obtain ⟨rfl, Nq485, hs485⟩ := hQ485
  have N485 := Fr.app N479 Nq485
  rw [hs485] at e485
  refine Go.step st485 ?_
  show Go _ _ _ _ _ _ _ T485 (mkF m 39 #[.val (.ref n1), .val (.ref n3), .val (.ref n2), .val (.ref n1), .val .null] [(.int (0 : Int32))])
  have hc39_486 : (0 : Int32) = (0 : Int32) := (by decide)
  refine Go.step (fun _ k => XS.ifYes X485.here hx rfl (pc0 := 39) (pc' := 63) rfl (hb hby d26_39) rfl ((if0 _ _).trans (teq hc39_486).1) (by decide) (by decide) k) ?_
  show Go _ _ _ _ _ _ _ T485 (mkF m 63 #[.val (.ref n1), .val (.ref n3), .val (.ref n2), .val (.ref n1), .val .null] [])
  refine Go.step (fun _ k => XS.aloadN X485.here hx rfl (hb hby d26_63) rfl rfl k) ?_
  refine Go.step (fun _ k => XS.aloadN X485.here hx rfl (hb hby d26_64) rfl rfl k) ?_
  obtain ⟨T487, X487, e487, st487⟩ := getF X485 hx hZ hown (host := "") (Or.inl (own_w hw 177 rfl)) Via.refl e485 d_right (g := (mkF m 65 #[.val (.ref n1), .val (.ref n3), .val (.ref n2), .val (.ref n1), .val .null] [(.ref n2), (.ref n3)])) rfl rfl (hb hby d26_65)
  refine Go.step st487 ?_
  show Go _ _ _ _ _ _ _ T487 (mkF m 68 #[.val (.ref n1), .val (.ref n3), .val (.ref n2), .val (.ref n1), .val .null] [.null, (.ref n3)])
  refine Go.step (fun _ k => Jvm.RoadKit.acmp (g := (mkF m 68 #[.val (.ref n1), .val (.ref n3), .val (.ref n2), .val (.ref n1), .val .null] [.null, (.ref n3)])) X487 hx rfl rfl rfl (pc0 := 68) (pc' := 84) (same := false) rfl (hb hby d26_68) rfl (decide_eq_false nofun) (by decide) (by decide) k) ?_
  show Go _ _ _ _ _ _ _ T487 (mkF m 84 #[.val (.ref n1), .val (.ref n3), .val (.ref n2), .val (.ref n1), .val .null] [])
  refine Go.step (fun _ k => XS.aloadN X487.here hx rfl (hb hby d26_84) rfl rfl k) ?_
  refine Go.step (fun _ k => XS.iconst X487.here hx rfl (hb hby d26_85) k) ?_
  obtain ⟨T488, h488, X488, e488, W488, st488⟩ := putFN X487 hx hZ hown (own_w hw 153 rfl) Via.refl e487 d_red E_n2 (Or.inl (own_w hw 133 rfl)) (own_w hw 119 rfl) (ty := .boolean) (v' := (.int (0 : Int32))) (by decide) rfl rfl (g := (mkF m 86 #[.val (.ref n1), .val (.ref n3), .val (.ref n2), .val (.ref n1), .val .null] [(.int (0 : Int32)), (.ref n2)])) rfl rfl (hb hby d26_86)
  refine Go.step st488 ?_
  have Fw488 := d_red.same W488
  have N488 := Fr.snoc X488 N485 g_n2
  have Z488 : n0 ≤ h488.size := Nat.le_trans Z0 (Keep.of_wr W488).1
  have KK488 := (Keep.refl h0 [n1, n2]).wr W488 (Or.inl (List.mem_of_getElem? (i := 1) rfl))
  show Go _ _ _ _ _ _ _ T488 (mkF m 89 #[.val (.ref n1), .val (.ref n3), .val (.ref n2), .val (.ref n1), .val .null] [])
  refine Go.step (fun _ k => XS.aloadN X488.here hx rfl (hb hby d26_89) rfl rfl k) ?_
  refine Go.step (fun _ k => XS.iconst X488.here hx rfl (hb hby d26_90) k) ?_
  have f489 := (c_red.other W488 (Or.inl ne12))
  have f490 := (E_n1.wr W488)
  obtain ⟨T491, h491, X491, e491, W491, st491⟩ := putFN X488 hx hZ hown (own_w hw 153 rfl) Via.refl e488 f489 f490 (Or.inl (own_w hw 133 rfl)) (own_w hw 119 rfl) (ty := .boolean) (v' := (.int (1 : Int32))) (by decide) rfl rfl (g := (mkF m 91 #[.val (.ref n1), .val (.ref n3), .val (.ref n2), .val (.ref n1), .val .null] [(.int (1 : Int32)), (.ref n1)])) rfl rfl (hb hby d26_91)
  refine Go.step st491 ?_
  have Fw491 := f489.same W491
  have N491 := Fr.snoc X491 N488 g_n1
  have Z491 : n0 ≤ h491.size := Nat.le_trans Z488 (Keep.of_wr W491).1
  have KK491 := KK488.wr W491 (Or.inl (List.mem_of_getElem? (i := 0) rfl))
  show Go _ _ _ _ _ _ _ T491 (mkF m 94 #[.val (.ref n1), .val (.ref n3), .val (.ref n2), .val (.ref n1), .val .null] [])
  refine Go.step (fun _ k => XS.aloadN X491.here hx rfl (hb hby d26_94) rfl rfl k) ?_
  refine Go.step (fun _ k => XS.aloadN X491.here hx rfl (hb hby d26_95) rfl rfl k) ?_
  have f493 := (f490.wr W491)
  have f494 := ((E_n2.wr W488).wr W491)
  have f495 := ((c_left.other W488 (Or.inl ne12)).other W491 (Or.inr (slot_ne (a0 := a0) (C := "gatherwick/maps/RedBlackTree$Node") (Or.inl (own_w hw 179 rfl)) (Or.inl (own_w hw 133 rfl)) (by decide) (t := (.object "gatherwick/maps/RedBlackTree$Node")) (t' := .boolean) (by decide) (by decide))))
  have f496 := ((c_parent.other W488 (Or.inl ne12)).other W491 (Or.inr (slot_ne (a0 := a0) (C := "gatherwick/maps/RedBlackTree$Node") (Or.inl (own_w hw 139 rfl)) (Or.inl (own_w hw 133 rfl)) (by decide) (t := (.object "gatherwick/maps/RedBlackTree$Node")) (t' := .boolean) (by decide) (by decide))))
  have f497 := ((d_left.other W488 (Or.inr (slot_ne (a0 := a0) (C := "gatherwick/maps/RedBlackTree$Node") (Or.inl (own_w hw 179 rfl)) (Or.inl (own_w hw 133 rfl)) (by decide) (t := (.object "gatherwick/maps/RedBlackTree$Node")) (t' := .boolean) (by decide) (by decide)))).other W491 (Or.inl (Ne.symm ne12)))
  have f498 := ((d_right.other W488 (Or.inr (slot_ne (a0 := a0) (C := "gatherwick/maps/RedBlackTree$Node") (Or.inl (own_w hw 176 rfl)) (Or.inl (own_w hw 133 rfl)) (by decide) (t := (.object "gatherwick/maps/RedBlackTree$Node")) (t' := .boolean) (by decide) (by decide)))).other W491 (Or.inl (Ne.symm ne12)))
  have f499 := ((d_parent.other W488 (Or.inr (slot_ne (a0 := a0) (C := "gatherwick/maps/RedBlackTree$Node") (Or.inl (own_w hw 139 rfl)) (Or.inl (own_w hw 133 rfl)) (by decide) (t := (.object "gatherwick/maps/RedBlackTree$Node")) (t' := .boolean) (by decide) (by decide)))).other W491 (Or.inl (Ne.symm ne12)))
  have f500 := (Fw488.other W491 (Or.inl (Ne.symm ne12)))
  obtain ⟨_, _, ⟨T492, L492, k492, n492⟩, -, X492, ⟨Lc492, hQ492, l492, y492, z492⟩, st492⟩ := Jvm.LawKit.callS X491 hx (y := (⟨"gatherwick/maps/RedBlackTree", "rotateRight", "(Lgatherwick/maps/RedBlackTree$Node;Lgatherwick/maps/RedBlackTree$Node;)Lgatherwick/maps/RedBlackTree$Node;"⟩ : MethodName)) hown (mvT hZ (own_w hw 181 rfl)) (mvT hZ (own_w hw 182 rfl)) (mvT hZ (own_w hw 144 rfl)) (mvT hZ (own_w hw 183 rfl)) (by decide) (backOf (W := 0) (rmTl l Z a0 hw [] n1 n1 n2 (.ref n3) (.ref n1) (0 : Int32) h491 n0 Z491 f493 g_n1 f494 g_n2 ne12 f495 f496 f497 f498 f499 f500) hZ (own_w hw 183 rfl) (own_w hw 144 rfl) (by decide) (by decide)) (g := (mkF m 96 #[.val (.ref n1), .val (.ref n3), .val (.ref n2), .val (.ref n1), .val .null] [(.ref n1), (.ref n1)])) rfl (by rw [hml]; rfl) (argsL := [(.ref n1), (.ref n1)]) (rest := []) (lenOf pd__Lgatherwick_maps_RedBlackTree_Node_Lgatherwick_maps_RedBlackTree_Node__Lgatherwick_maps_RedBlackTree_Node_ rfl) rfl (by show 2 * 0 + _ ≤ _; exact Nat.le_of_eq rfl) (hb hby d26_96) (fun _ _ => ⟨rfl, e491, (by decide : 0 + 0 ≤ _), (by decide : 0 + 0 ≤ _)⟩)
  dsimp only [Pt.U, Pt.locs, Pt.cells, Pt.slots] at X492 l492 y492 z492 st492 hQ492
  subst l492 y492 z492
  obtain ⟨h492, e492⟩ : ∃ h, T492.heap = h := ⟨_, rfl⟩
  rw [e492] at hQ492
  obtain ⟨rfl, Nq492, Kq492, o_left_492, o_parent_492, y_left_492, y_right_492, y_parent_492, y_red_492⟩ := hQ492
  have N492 := Fr.app N491 Nq492
  have Z492 : n0 ≤ h492.size := Nat.le_trans Z491 Kq492.1
  have KK492 := KK491.trans Kq492 (allS (Or.inl (List.mem_of_getElem? (i := 0) rfl)) (allS (Or.inl (List.mem_of_getElem? (i := 1) rfl)) all0))
  have y_red_492 : Fld Z h492 n2 "gatherwick/maps/RedBlackTree$Node" "red" "Z" (.int (0 : Int32)) := y_red_492
  refine Go.step st492 ?_
  show Go _ _ _ _ _ _ _ T492 (mkF m 99 #[.val (.ref n1), .val (.ref n3), .val (.ref n2), .val (.ref n1), .val .null] [(.ref n2)])
  refine Go.step (fun _ k => XS.astoreN X492.here hx rfl (hb hby d26_99) rfl rfl (l' := #[.val (.ref n2), .val (.ref n3), .val (.ref n2), .val (.ref n1), .val .null]) rfl k) ?_
  show Go _ _ _ _ _ _ _ T492 (mkF m 100 #[.val (.ref n2), .val (.ref n3), .val (.ref n2), .val (.ref n1), .val .null] [])
  refine Go.step (fun _ k => XS.goto X492.here hx rfl (pc0 := 100) (pc' := 175) rfl (hb hby d26_100) (by decide) (by decide) k) ?_
  show Go _ _ _ _ _ _ _ T492 (mkF m 175 #[.val (.ref n2), .val (.ref n3), .val (.ref n2), .val (.ref n1), .val .null] [])
  refine Go.step (fun _ k => XS.goto X492.here hx rfl (pc0 := 175) (pc' := 0) rfl (hb hby d26_175) (by decide) (by decide) k) ?_
  show Go _ _ _ _ _ _ _ T492 (mkF m 0 #[.val (.ref n2), .val (.ref n3), .val (.ref n2), .val (.ref n1), .val .null] [])
  refine Go.step (fun _ k => XS.aloadN X492.here hx rfl (hb hby d26_0) rfl rfl k) ?_
  have f501 := (((a_parent.other W488 (Or.inl (Ne.symm ne23))).other W491 (Or.inl (Ne.symm ne13))).keep Kq492 (ninS (Ne.symm ne13) (ninS (Ne.symm ne23) nin0)))
  obtain ⟨T502, X502, e502, st502⟩ := getF X492 hx hZ hown (host := "") (Or.inl (own_w hw 146 rfl)) Via.refl e492 f501 (g := (mkF m 1 #[.val (.ref n2), .val (.ref n3), .val (.ref n2), .val (.ref n1), .val .null] [(.ref n3)])) rfl rfl (hb hby d26_1)
  refine Go.step st502 ?_
  show Go _ _ _ _ _ _ _ T502 (mkF m 4 #[.val (.ref n2), .val (.ref n3), .val (.ref n2), .val (.ref n1), .val .null] [(.ref n2)])
  obtain ⟨_, _, ⟨T503, L503, k503, n503⟩, -, X503, ⟨Lc503, hQ503, l503, y503, z503⟩, st503⟩ := Jvm.LawKit.callS X502 hx (y := (⟨"gatherwick/maps/RedBlackTree", "isRed", "(Lgatherwick/maps/RedBlackTree$Node;)Z"⟩ : MethodName)) hown (mvT hZ (own_w hw 150 rfl)) (mvT hZ (own_w hw 151 rfl)) (mvT hZ (own_w hw 144 rfl)) (mvT hZ (own_w hw 152 rfl)) (by decide) (backOf (W := 0) (rmRz l Z a0 hw [] n2 h492 n0 Z492 y_red_492) hZ (own_w hw 152 rfl) (own_w hw 144 rfl) (by decide) (by decide)) (g := (mkF m 4 #[.val (.ref n2), .val (.ref n3), .val (.ref n2), .val (.ref n1), .val .null] [(.ref n2)])) rfl (by rw [hml]; rfl) (argsL := [(.ref n2)]) (rest := []) (lenOf pd__Lgatherwick_maps_RedBlackTree_Node__Z rfl) rfl (by show 2 * 0 + _ ≤ _; exact Nat.le_of_eq rfl) (hb hby d26_4) (fun _ _ => ⟨rfl, e502, (by decide : 0 + 0 ≤ _), (by decide : 0 + 0 ≤ _)⟩)
  dsimp only [Pt.U, Pt.locs, Pt.cells, Pt.slots] at X503 l503 y503 z503 st503 hQ503
  subst l503 y503 z503
  obtain ⟨h503, e503⟩ : ∃ h, T503.heap = h := ⟨_, rfl⟩
  rw [e503] at hQ503
  obtain ⟨rfl, Nq503, hs503⟩ := hQ503
  have N503 := Fr.app N492 Nq503
  rw [hs503] at e503
  refine Go.step st503 ?_
  show Go _ _ _ _ _ _ _ T503 (mkF m 7 #[.val (.ref n2), .val (.ref n3), .val (.ref n2), .val (.ref n1), .val .null] [(.int (0 : Int32))])
  have hc7_504 : (0 : Int32) = (0 : Int32) := (by decide)
  refine Go.step (fun _ k => XS.ifYes X503.here hx rfl (pc0 := 7) (pc' := 178) rfl (hb hby d26_7) rfl ((if0 _ _).trans (teq hc7_504).1) (by decide) (by decide) k) ?_
  show Go _ _ _ _ _ _ _ T503 (mkF m 178 #[.val (.ref n2), .val (.ref n3), .val (.ref n2), .val (.ref n1), .val .null] [])
  refine Go.step (fun _ k => XS.aloadN X503.here hx rfl (hb hby d26_178) rfl rfl k) ?_
  refine Go.step (fun _ k => XS.iconst X503.here hx rfl (hb hby d26_179) k) ?_
  have f505 := (f494.keep Kq492)
  obtain ⟨T506, h506, X506, e506, W506, st506⟩ := putFN X503 hx hZ hown (own_w hw 153 rfl) Via.refl e503 y_red_492 f505 (Or.inl (own_w hw 133 rfl)) (own_w hw 119 rfl) (ty := .boolean) (v' := (.int (0 : Int32))) (by decide) rfl rfl (g := (mkF m 180 #[.val (.ref n2), .val (.ref n3), .val (.ref n2), .val (.ref n1), .val .null] [(.int (0 : Int32)), (.ref n2)])) rfl rfl (hb hby d26_180)
  refine Go.step st506 ?_
  have Fw506 := y_red_492.same W506
  have N506 := Fr.snoc X506 N503 g_n2
  have Z506 : n0 ≤ h506.size := Nat.le_trans Z492 (Keep.of_wr W506).1
  have KK506 := KK492.wr W506 (Or.inl (List.mem_of_getElem? (i := 1) rfl))
  show Go _ _ _ _ _ _ _ T506 (mkF m 183 #[.val (.ref n2), .val (.ref n3), .val (.ref n2), .val (.ref n1), .val .null] [])
  refine Go.step (fun _ k => XS.aloadN X506.here hx rfl (hb hby d26_183) rfl rfl k) ?_
  exact Go.retA X506 hx hret hlk rfl rfl (hb hby d26_184) e506 (by decide) (by decide) ⟨rfl, N506, KK506⟩
theorem ef_rmBWlr (m : MethodId) (n1 : Addr) (n3 : Addr) : entryFrame m #[(.ref n1), (.ref n3)] 5 = mkF m 0 #[.val (.ref n1), .val (.ref n3), .unset, .unset, .unset] [] := by first | (simp [entryFrame, mkF, argsToLocals, Value.category]; done) | rfl
def Q_rmBWlr (Z : State) (n1 : Addr) (n3 : Addr) (n2 : Addr) (h0 : Heap) (n0 : Nat) (v : Option Value) (h : Heap) (L : List Loc) : Prop := (v = some (.ref n3)) ∧ (Fr n0 L) ∧ (Keep h0 h [n1, n2, n3])
theorem rmBWlr (l : Launch) (Z : State) (a0 : Array Value) (hw : ∀ d ∈ tables_1, d.before a0 Z = true) (ws : List Jvm.Cond) (n1 : Addr) (n3 : Addr) (n2 : Addr) (h0 : Heap) (n0 : Nat) (Z0 : n0 ≤ h0.size) (E_n1 : Exa Z h0 n1 "gatherwick/maps/RedBlackTree$Node") (g_n1 : n0 ≤ n1) (E_n2 : Exa Z h0 n2 "gatherwick/maps/RedBlackTree$Node") (g_n2 : n0 ≤ n2) (E_n3 : Exa Z h0 n3 "gatherwick/maps/RedBlackTree$Node") (g_n3 : n0 ≤ n3) (ne12 : n1 ≠ n2) (ne13 : n1 ≠ n3) (ne23 : n2 ≠ n3) (c_left : Fld Z h0 n1 "gatherwick/maps/RedBlackTree$Node" "left" "Lgatherwick/maps/RedBlackTree$Node;" (.ref n2)) (c_right : Fld Z h0 n1 "gatherwick/maps/RedBlackTree$Node" "right" "Lgatherwick/maps/RedBlackTree$Node;" .null) (c_parent : Fld Z h0 n1 "gatherwick/maps/RedBlackTree$Node" "parent" "Lgatherwick/maps/RedBlackTree$Node;" .null) (c_red : Fld Z h0 n1 "gatherwick/maps/RedBlackTree$Node" "red" "Z" (.int (0 : Int32))) (d_right : Fld Z h0 n2 "gatherwick/maps/RedBlackTree$Node" "right" "Lgatherwick/maps/RedBlackTree$Node;" (.ref n3)) (d_left : Fld Z h0 n2 "gatherwick/maps/RedBlackTree$Node" "left" "Lgatherwick/maps/RedBlackTree$Node;" .null) (d_parent : Fld Z h0 n2 "gatherwick/maps/RedBlackTree$Node" "parent" "Lgatherwick/maps/RedBlackTree$Node;" (.ref n1)) (d_red : Fld Z h0 n2 "gatherwick/maps/RedBlackTree$Node" "red" "Z" (.int (1 : Int32))) (a_left : Fld Z h0 n3 "gatherwick/maps/RedBlackTree$Node" "left" "Lgatherwick/maps/RedBlackTree$Node;" .null) (a_right : Fld Z h0 n3 "gatherwick/maps/RedBlackTree$Node" "right" "Lgatherwick/maps/RedBlackTree$Node;" .null) (a_parent : Fld Z h0 n3 "gatherwick/maps/RedBlackTree$Node" "parent" "Lgatherwick/maps/RedBlackTree$Node;" (.ref n2)) (a_red : Fld Z h0 n3 "gatherwick/maps/RedBlackTree$Node" "red" "Z" (.int (1 : Int32))) :
    MetFree l (⟨"gatherwick/maps/RedBlackTree", "rebalanceAfterLink", "(Lgatherwick/maps/RedBlackTree$Node;Lgatherwick/maps/RedBlackTree$Node;)Lgatherwick/maps/RedBlackTree$Node;"⟩ : MethodName) (head1 (Jvm.Cond.code (⟨"gatherwick/maps/RedBlackTree", "rebalanceAfterLink", "(Lgatherwick/maps/RedBlackTree$Node;Lgatherwick/maps/RedBlackTree$Node;)Lgatherwick/maps/RedBlackTree$Node;"⟩ : MethodName) prog_57_method_3_code 5 (some (.object "gatherwick/maps/RedBlackTree$Node")) :: ws) ({ frames := 2, cells := 0, slots := 0, locals := 29 } : Room)) (fun aA U => aA = #[(.ref n1), (.ref n3)] ∧ Z.Warmed39 U.vm ∧ U.heap = h0) (fun _ _ _ _ _ => True) (fun _ U o U' => ∃ v L, o = .returned v ∧ Q_rmBWlr Z n1 n3 n2 h0 n0 v U'.heap L ∧ FrameEnd U o U' L ({ frames := 2, cells := 0, slots := 0, locals := 29 } : Room).cells ({ frames := 2, cells := 0, slots := 0, locals := 29 } : Room).slots) := by
  refine MetFree.of_bodySF (plainFor_of_name pn_gatherwick_maps_RedBlackTree) hisR ?_
  intro p e s m args below meth c s₁ Bd hml0 hP hK
  obtain ⟨rfl, hZ, hh⟩ := hP
  have hx := Bd.exec
  have hby := Bd.bytes
  have hml : c.maxLocals = 5 := hml0
  have hown : s.vm.findClass "gatherwick/maps/RedBlackTree" = some m.cls := findClass_of_methodNamed Bd.named
  have hnm := (name_of_methodNamed Bd.named Bd.method).1
  have hret := Bd.returns
  have hlk : meth.locks = false := BodyLoose.notSynchronized Bd
  have X0 : Stand p l e ({ frames := 2, cells := 0, slots := 0, locals := 29 } : Room) s m #[(.ref n1), (.ref n3)] below meth c s₁ [] 0 0 := Stand.of_body Bd
  have e0 : s₁.heap = h0 := by rw [← hh, Bd.state]; rfl
  have N0 := Fr.nil n0
  suffices hgo : Go p e below s ({ frames := 2, cells := 0, slots := 0, locals := 29 } : Room).cells ({ frames := 2, cells := 0, slots := 0, locals := 29 } : Room).slots (Q_rmBWlr Z n1 n3 n2 h0 n0) s₁ (mkF m 0 #[.val (.ref n1), .val (.ref n3), .unset, .unset, .unset] []) from hgo.enter (ef_rmBWlr m n1 n3)
  refine Go.step (fun _ k => XS.aloadN X0.here hx rfl (hb hby d26_0) rfl rfl k) ?_
  obtain ⟨T507, X507, e507, st507⟩ := getF X0 hx hZ hown (host := "") (Or.inl (own_w hw 146 rfl)) Via.refl e0 a_parent (g := (mkF m 1 #[.val (.ref n1), .val (.ref n3), .unset, .unset, .unset] [(.ref n3)])) rfl rfl (hb hby d26_1)
  refine Go.step st507 ?_
  show Go _ _ _ _ _ _ _ T507 (mkF m 4 #[.val (.ref n1), .val (.ref n3), .unset, .unset, .unset] [(.ref n2)])
  obtain ⟨_, _, ⟨T508, L508, k508, n508⟩, -, X508, ⟨Lc508, hQ508, l508, y508, z508⟩, st508⟩ := Jvm.LawKit.callS X507 hx (y := (⟨"gatherwick/maps/RedBlackTree", "isRed", "(Lgatherwick/maps/RedBlackTree$Node;)Z"⟩ : MethodName)) hown (mvT hZ (own_w hw 150 rfl)) (mvT hZ (own_w hw 151 rfl)) (mvT hZ (own_w hw 144 rfl)) (mvT hZ (own_w hw 152 rfl)) (by decide) (backOf (W := 0) (rmRo l Z a0 hw [] n2 h0 n0 Z0 d_red) hZ (own_w hw 152 rfl) (own_w hw 144 rfl) (by decide) (by decide)) (g := (mkF m 4 #[.val (.ref n1), .val (.ref n3), .unset, .unset, .unset] [(.ref n2)])) rfl (by rw [hml]; rfl) (argsL := [(.ref n2)]) (rest := []) (lenOf pd__Lgatherwick_maps_RedBlackTree_Node__Z rfl) rfl (by show 2 * 0 + _ ≤ _; exact Nat.le_of_eq rfl) (hb hby d26_4) (fun _ _ => ⟨rfl, e507, (by decide : 0 + 0 ≤ _), (by decide : 0 + 0 ≤ _)⟩)
  dsimp only [Pt.U, Pt.locs, Pt.cells, Pt.slots] at X508 l508 y508 z508 st508 hQ508
  subst l508 y508 z508
  obtain ⟨h508, e508⟩ : ∃ h, T508.heap = h := ⟨_, rfl⟩
  rw [e508] at hQ508
  obtain ⟨rfl, Nq508, hs508⟩ := hQ508
  have N508 := Fr.app N0 Nq508
  rw [hs508] at e508
  refine Go.step st508 ?_
  show Go _ _ _ _ _ _ _ T508 (mkF m 7 #[.val (.ref n1), .val (.ref n3), .unset, .unset, .unset] [(.int (1 : Int32))])
  have hc7_509 : ¬ ((1 : Int32) = (0 : Int32)) := (by decide)
  refine Go.step (fun _ k => XS.ifNo X508.here hx rfl (hb hby d26_7) rfl ((if0 _ _).trans (feq hc7_509).1) k) ?_
  show Go _ _ _ _ _ _ _ T508 (mkF m 10 #[.val (.ref n1), .val (.ref n3), .unset, .unset, .unset] [])
  refine Go.step (fun _ k => XS.aloadN X508.here hx rfl (hb hby d26_10) rfl rfl k) ?_
  obtain ⟨T510, X510, e510, st510⟩ := getF X508 hx hZ hown (host := "") (Or.inl (own_w hw 146 rfl)) Via.refl e508 a_parent (g := (mkF m 11 #[.val (.ref n1), .val (.ref n3), .unset, .unset, .unset] [(.ref n3)])) rfl rfl (hb hby d26_11)
  refine Go.step st510 ?_
  show Go _ _ _ _ _ _ _ T510 (mkF m 14 #[.val (.ref n1), .val (.ref n3), .unset, .unset, .unset] [(.ref n2)])
  refine Go.step (fun _ k => XS.astoreN X510.here hx rfl (hb hby d26_14) rfl rfl (l' := #[.val (.ref n1), .val (.ref n3), .val (.ref n2), .unset, .unset]) rfl k) ?_
  show Go _ _ _ _ _ _ _ T510 (mkF m 15 #[.val (.ref n1), .val (.ref n3), .val (.ref n2), .unset, .unset] [])
  refine Go.step (fun _ k => XS.aloadN X510.here hx rfl (hb hby d26_15) rfl rfl k) ?_
  obtain ⟨T511, X511, e511, st511⟩ := getF X510 hx hZ hown (host := "") (Or.inl (own_w hw 146 rfl)) Via.refl e510 d_parent (g := (mkF m 16 #[.val (.ref n1), .val (.ref n3), .val (.ref n2), .unset, .unset] [(.ref n2)])) rfl rfl (hb hby d26_16)
  refine Go.step st511 ?_
  show Go _ _ _ _ _ _ _ T511 (mkF m 19 #[.val (.ref n1), .val (.ref n3), .val (.ref n2), .unset, .unset] [(.ref n1)])
  refine Go.step (fun _ k => XS.astoreN X511.here hx rfl (hb hby d26_19) rfl rfl (l' := #[.val (.ref n1), .val (.ref n3), .val (.ref n2), .val (.ref n1), .unset]) rfl k) ?_
  show Go _ _ _ _ _ _ _ T511 (mkF m 20 #[.val (.ref n1), .val (.ref n3), .val (.ref n2), .val (.ref n1), .unset] [])
  refine Go.step (fun _ k => XS.aloadN X511.here hx rfl (hb hby d26_20) rfl rfl k) ?_
  refine Go.step (fun _ k => XS.aloadN X511.here hx rfl (hb hby d26_21) rfl rfl k) ?_
  obtain ⟨T512, X512, e512, st512⟩ := getF X511 hx hZ hown (host := "") (Or.inl (own_w hw 180 rfl)) Via.refl e511 c_left (g := (mkF m 22 #[.val (.ref n1), .val (.ref n3), .val (.ref n2), .val (.ref n1), .unset] [(.ref n1), (.ref n2)])) rfl rfl (hb hby d26_22)
  refine Go.step st512 ?_
  show Go _ _ _ _ _ _ _ T512 (mkF m 25 #[.val (.ref n1), .val (.ref n3), .val (.ref n2), .val (.ref n1), .unset] [(.ref n2), (.ref n2)])
  refine Go.step (fun _ k => Jvm.RoadKit.acmp (g := (mkF m 25 #[.val (.ref n1), .val (.ref n3), .val (.ref n2), .val (.ref n1), .unset] [(.ref n2), (.ref n2)])) X512 hx rfl rfl rfl (pc0 := 25) (pc' := 28) (same := true) rfl (hb hby d26_25) rfl (decide_eq_true rfl) (by decide) (by decide) k) ?_
  show Go _ _ _ _ _ _ _ T512 (mkF m 28 #[.val (.ref n1), .val (.ref n3), .val (.ref n2), .val (.ref n1), .unset] [])
  refine Go.step (fun _ k => XS.aloadN X512.here hx rfl (hb hby d26_28) rfl rfl k) ?_
  obtain ⟨T513, X513, e513, st513⟩ := getF X512 hx hZ hown (host := "") (Or.inl (own_w hw 177 rfl)) Via.refl e512 c_right (g := (mkF m 29 #[.val (.ref n1), .val (.ref n3), .val (.ref n2), .val (.ref n1), .unset] [(.ref n1)])) rfl rfl (hb hby d26_29)
  refine Go.step st513 ?_
  show Go _ _ _ _ _ _ _ T513 (mkF m 32 #[.val (.ref n1), .val (.ref n3), .val (.ref n2), .val (.ref n1), .unset] [.null])
  refine Go.step (fun _ k => XS.astore X513.here hx rfl (hb hby d26_32) rfl rfl (l' := #[.val (.ref n1), .val (.ref n3), .val (.ref n2), .val (.ref n1), .val .null]) rfl k) ?_
  show Go _ _ _ _ _ _ _ T513 (mkF m 34 #[.val (.ref n1), .val (.ref n3), .val (.ref n2), .val (.ref n1), .val .null] [])
  refine Go.step (fun _ k => XS.aload X513.here hx rfl (hb hby d26_34) rfl rfl k) ?_
  obtain ⟨_, _, ⟨T514, L514, k514, n514⟩, -, X514, ⟨Lc514, hQ514, l514, y514, z514⟩, st514⟩ := Jvm.LawKit.callS X513 hx (y := (⟨"gatherwick/maps/RedBlackTree", "isRed", "(Lgatherwick/maps/RedBlackTree$Node;)Z"⟩ : MethodName)) hown (mvT hZ (own_w hw 150 rfl)) (mvT hZ (own_w hw 151 rfl)) (mvT hZ (own_w hw 144 rfl)) (mvT hZ (own_w hw 152 rfl)) (by decide) (backOf (W := 0) (rmRn l Z a0 hw []  h0 n0 Z0 ) hZ (own_w hw 152 rfl) (own_w hw 144 rfl) (by decide) (by decide)) (g := (mkF m 36 #[.val (.ref n1), .val (.ref n3), .val (.ref n2), .val (.ref n1), .val .null] [.null])) rfl (by rw [hml]; rfl) (argsL := [.null]) (rest := []) (lenOf pd__Lgatherwick_maps_RedBlackTree_Node__Z rfl) rfl (by show 2 * 0 + _ ≤ _; exact Nat.le_of_eq rfl) (hb hby d26_36) (fun _ _ => ⟨rfl, e513, (by decide : 0 + 0 ≤ _), (by decide : 0 + 0 ≤ _)⟩)
  dsimp only [Pt.U, Pt.locs, Pt.cells, Pt.slots] at X514 l514 y514 z514 st514 hQ514
  subst l514 y514 z514
  obtain ⟨h514, e514⟩ : ∃ h, T514.heap = h := ⟨_, rfl⟩
  rw [e514] at hQ514
  obtain ⟨rfl, Nq514, hs514⟩ := hQ514
  have N514 := Fr.app N508 Nq514
  rw [hs514] at e514
  refine Go.step st514 ?_
  show Go _ _ _ _ _ _ _ T514 (mkF m 39 #[.val (.ref n1), .val (.ref n3), .val (.ref n2), .val (.ref n1), .val .null] [(.int (0 : Int32))])
  have hc39_515 : (0 : Int32) = (0 : Int32) := (by decide)
  refine Go.step (fun _ k => XS.ifYes X514.here hx rfl (pc0 := 39) (pc' := 63) rfl (hb hby d26_39) rfl ((if0 _ _).trans (teq hc39_515).1) (by decide) (by decide) k) ?_
  show Go _ _ _ _ _ _ _ T514 (mkF m 63 #[.val (.ref n1), .val (.ref n3), .val (.ref n2), .val (.ref n1), .val .null] [])
  refine Go.step (fun _ k => XS.aloadN X514.here hx rfl (hb hby d26_63) rfl rfl k) ?_
  refine Go.step (fun _ k => XS.aloadN X514.here hx rfl (hb hby d26_64) rfl rfl k) ?_
  obtain ⟨T516, X516, e516, st516⟩ := getF X514 hx hZ hown (host := "") (Or.inl (own_w hw 177 rfl)) Via.refl e514 d_right (g := (mkF m 65 #[.val (.ref n1), .val (.ref n3), .val (.ref n2), .val (.ref n1), .val .null] [(.ref n2), (.ref n3)])) rfl rfl (hb hby d26_65)
  refine Go.step st516 ?_
  show Go _ _ _ _ _ _ _ T516 (mkF m 68 #[.val (.ref n1), .val (.ref n3), .val (.ref n2), .val (.ref n1), .val .null] [(.ref n3), (.ref n3)])
  refine Go.step (fun _ k => Jvm.RoadKit.acmp (g := (mkF m 68 #[.val (.ref n1), .val (.ref n3), .val (.ref n2), .val (.ref n1), .val .null] [(.ref n3), (.ref n3)])) X516 hx rfl rfl rfl (pc0 := 68) (pc' := 71) (same := true) rfl (hb hby d26_68) rfl (decide_eq_true rfl) (by decide) (by decide) k) ?_
  show Go _ _ _ _ _ _ _ T516 (mkF m 71 #[.val (.ref n1), .val (.ref n3), .val (.ref n2), .val (.ref n1), .val .null] [])
  refine Go.step (fun _ k => XS.aloadN X516.here hx rfl (hb hby d26_71) rfl rfl k) ?_
  refine Go.step (fun _ k => XS.astoreN X516.here hx rfl (hb hby d26_72) rfl rfl (l' := #[.val (.ref n1), .val (.ref n2), .val (.ref n2), .val (.ref n1), .val .null]) rfl k) ?_
  show Go _ _ _ _ _ _ _ T516 (mkF m 73 #[.val (.ref n1), .val (.ref n2), .val (.ref n2), .val (.ref n1), .val .null] [])
  refine Go.step (fun _ k => XS.aloadN X516.here hx rfl (hb hby d26_73) rfl rfl k) ?_
  refine Go.step (fun _ k => XS.aloadN X516.here hx rfl (hb hby d26_74) rfl rfl k) ?_
  obtain ⟨_, _, ⟨T517, L517, k517, n517⟩, -, X517, ⟨Lc517, hQ517, l517, y517, z517⟩, st517⟩ := Jvm.LawKit.callS X516 hx (y := (⟨"gatherwick/maps/RedBlackTree", "rotateLeft", "(Lgatherwick/maps/RedBlackTree$Node;Lgatherwick/maps/RedBlackTree$Node;)Lgatherwick/maps/RedBlackTree$Node;"⟩ : MethodName)) hown (mvT hZ (own_w hw 187 rfl)) (mvT hZ (own_w hw 188 rfl)) (mvT hZ (own_w hw 144 rfl)) (mvT hZ (own_w hw 189 rfl)) (by decide) (backOf (W := 0) (rmUr l Z a0 hw [] n1 n2 n3 .null (.ref n2) (1 : Int32) n1 .null .null (0 : Int32) h0 n0 Z0 E_n2 g_n2 E_n3 g_n3 E_n1 g_n1 ne23 ne12 ne13 d_right d_parent a_right a_left a_parent a_red c_left c_right c_parent c_red) hZ (own_w hw 189 rfl) (own_w hw 144 rfl) (by decide) (by decide)) (g := (mkF m 75 #[.val (.ref n1), .val (.ref n2), .val (.ref n2), .val (.ref n1), .val .null] [(.ref n2), (.ref n1)])) rfl (by rw [hml]; rfl) (argsL := [(.ref n1), (.ref n2)]) (rest := []) (lenOf pd__Lgatherwick_maps_RedBlackTree_Node_Lgatherwick_maps_RedBlackTree_Node__Lgatherwick_maps_RedBlackTree_Node_ rfl) rfl (by show 2 * 0 + _ ≤ _; exact Nat.le_of_eq rfl) (hb hby d26_75) (fun _ _ => ⟨rfl, e516, (by decide : 0 + 0 ≤ _), (by decide : 0 + 0 ≤ _)⟩)
  dsimp only [Pt.U, Pt.locs, Pt.cells, Pt.slots] at X517 l517 y517 z517 st517 hQ517
  subst l517 y517 z517
  obtain ⟨h517, e517⟩ : ∃ h, T517.heap = h := ⟨_, rfl⟩
  rw [e517] at hQ517
  obtain ⟨rfl, Nq517, Kq517, o_right_517, o_parent_517, y_right_517, y_left_517, y_parent_517, y_red_517, h_left_517, h_right_517, h_parent_517, h_red_517⟩ := hQ517
  have N517 := Fr.app N514 Nq517
  have Z517 : n0 ≤ h517.size := Nat.le_trans Z0 Kq517.1
  have KK517 := (Keep.refl h0 [n1, n2, n3]).trans Kq517 (allS (Or.inl (List.mem_of_getElem? (i := 1) rfl)) (allS (Or.inl (List.mem_of_getElem? (i := 2) rfl)) (allS (Or.inl (List.mem_of_getElem? (i := 0) rfl)) all0)))
  have y_red_517 : Fld Z h517 n3 "gatherwick/maps/RedBlackTree$Node" "red" "Z" (.int (1 : Int32)) := y_red_517
  have h_red_517 : Fld Z h517 n1 "gatherwick/maps/RedBlackTree$Node" "red" "Z" (.int (0 : Int32)) := h_red_517
  refine Go.step st517 ?_
  show Go _ _ _ _ _ _ _ T517 (mkF m 78 #[.val (.ref n1), .val (.ref n2), .val (.ref n2), .val (.ref n1), .val .null] [(.ref n1)])
  refine Go.step (fun _ k => XS.astoreN X517.here hx rfl (hb hby d26_78) rfl rfl (l' := #[.val (.ref n1), .val (.ref n2), .val (.ref n2), .val (.ref n1), .val .null]) rfl k) ?_
  show Go _ _ _ _ _ _ _ T517 (mkF m 79 #[.val (.ref n1), .val (.ref n2), .val (.ref n2), .val (.ref n1), .val .null] [])
  refine Go.step (fun _ k => XS.aloadN X517.here hx rfl (hb hby d26_79) rfl rfl k) ?_
  obtain ⟨T518, X518, e518, st518⟩ := getF X517 hx hZ hown (host := "") (Or.inl (own_w hw 146 rfl)) Via.refl e517 o_parent_517 (g := (mkF m 80 #[.val (.ref n1), .val (.ref n2), .val (.ref n2), .val (.ref n1), .val .null] [(.ref n2)])) rfl rfl (hb hby d26_80)
  refine Go.step st518 ?_
  show Go _ _ _ _ _ _ _ T518 (mkF m 83 #[.val (.ref n1), .val (.ref n2), .val (.ref n2), .val (.ref n1), .val .null] [(.ref n3)])
  refine Go.step (fun _ k => XS.astoreN X518.here hx rfl (hb hby d26_83) rfl rfl (l' := #[.val (.ref n1), .val (.ref n2), .val (.ref n3), .val (.ref n1), .val .null]) rfl k) ?_
  show Go _ _ _ _ _ _ _ T518 (mkF m 84 #[.val (.ref n1), .val (.ref n2), .val (.ref n3), .val (.ref n1), .val .null] [])
  refine Go.step (fun _ k => XS.aloadN X518.here hx rfl (hb hby d26_84) rfl rfl k) ?_
  refine Go.step (fun _ k => XS.iconst X518.here hx rfl (hb hby d26_85) k) ?_
  have f519 := (E_n3.keep Kq517)
  obtain ⟨T520, h520, X520, e520, W520, st520⟩ := putFN X518 hx hZ hown (own_w hw 153 rfl) Via.refl e518 y_red_517 f519 (Or.inl (own_w hw 133 rfl)) (own_w hw 119 rfl) (ty := .boolean) (v' := (.int (0 : Int32))) (by decide) rfl rfl (g := (mkF m 86 #[.val (.ref n1), .val (.ref n2), .val (.ref n3), .val (.ref n1), .val .null] [(.int (0 : Int32)), (.ref n3)])) rfl rfl (hb hby d26_86)
  refine Go.step st520 ?_
  have Fw520 := y_red_517.same W520
  have N520 := Fr.snoc X520 N517 g_n3
  have Z520 : n0 ≤ h520.size := Nat.le_trans Z517 (Keep.of_wr W520).1
  have KK520 := KK517.wr W520 (Or.inl (List.mem_of_getElem? (i := 2) rfl))
  show Go _ _ _ _ _ _ _ T520 (mkF m 89 #[.val (.ref n1), .val (.ref n2), .val (.ref n3), .val (.ref n1), .val .null] [])
  refine Go.step (fun _ k => XS.aloadN X520.here hx rfl (hb hby d26_89) rfl rfl k) ?_
  refine Go.step (fun _ k => XS.iconst X520.here hx rfl (hb hby d26_90) k) ?_
  have f521 := (h_red_517.other W520 (Or.inl ne13))
  have f522 := ((E_n1.keep Kq517).wr W520)
  obtain ⟨T523, h523, X523, e523, W523, st523⟩ := putFN X520 hx hZ hown (own_w hw 153 rfl) Via.refl e520 f521 f522 (Or.inl (own_w hw 133 rfl)) (own_w hw 119 rfl) (ty := .boolean) (v' := (.int (1 : Int32))) (by decide) rfl rfl (g := (mkF m 91 #[.val (.ref n1), .val (.ref n2), .val (.ref n3), .val (.ref n1), .val .null] [(.int (1 : Int32)), (.ref n1)])) rfl rfl (hb hby d26_91)
  refine Go.step st523 ?_
  have Fw523 := f521.same W523
  have N523 := Fr.snoc X523 N520 g_n1
  have Z523 : n0 ≤ h523.size := Nat.le_trans Z520 (Keep.of_wr W523).1
  have KK523 := KK520.wr W523 (Or.inl (List.mem_of_getElem? (i := 0) rfl))
  show Go _ _ _ _ _ _ _ T523 (mkF m 94 #[.val (.ref n1), .val (.ref n2), .val (.ref n3), .val (.ref n1), .val .null] [])
  refine Go.step (fun _ k => XS.aloadN X523.here hx rfl (hb hby d26_94) rfl rfl k) ?_
  refine Go.step (fun _ k => XS.aloadN X523.here hx rfl (hb hby d26_95) rfl rfl k) ?_
  have f525 := (f522.wr W523)
  have f526 := ((f519.wr W520).wr W523)
  have f527 := ((h_left_517.other W520 (Or.inl ne13)).other W523 (Or.inr (slot_ne (a0 := a0) (C := "gatherwick/maps/RedBlackTree$Node") (Or.inl (own_w hw 179 rfl)) (Or.inl (own_w hw 133 rfl)) (by decide) (t := (.object "gatherwick/maps/RedBlackTree$Node")) (t' := .boolean) (by decide) (by decide))))
  have f528 := ((h_parent_517.other W520 (Or.inl ne13)).other W523 (Or.inr (slot_ne (a0 := a0) (C := "gatherwick/maps/RedBlackTree$Node") (Or.inl (own_w hw 139 rfl)) (Or.inl (own_w hw 133 rfl)) (by decide) (t := (.object "gatherwick/maps/RedBlackTree$Node")) (t' := .boolean) (by decide) (by decide))))
  have f529 := ((y_left_517.other W520 (Or.inr (slot_ne (a0 := a0) (C := "gatherwick/maps/RedBlackTree$Node") (Or.inl (own_w hw 179 rfl)) (Or.inl (own_w hw 133 rfl)) (by decide) (t := (.object "gatherwick/maps/RedBlackTree$Node")) (t' := .boolean) (by decide) (by decide)))).other W523 (Or.inl (Ne.symm ne13)))
  have f530 := ((y_right_517.other W520 (Or.inr (slot_ne (a0 := a0) (C := "gatherwick/maps/RedBlackTree$Node") (Or.inl (own_w hw 176 rfl)) (Or.inl (own_w hw 133 rfl)) (by decide) (t := (.object "gatherwick/maps/RedBlackTree$Node")) (t' := .boolean) (by decide) (by decide)))).other W523 (Or.inl (Ne.symm ne13)))
  have f531 := ((y_parent_517.other W520 (Or.inr (slot_ne (a0 := a0) (C := "gatherwick/maps/RedBlackTree$Node") (Or.inl (own_w hw 139 rfl)) (Or.inl (own_w hw 133 rfl)) (by decide) (t := (.object "gatherwick/maps/RedBlackTree$Node")) (t' := .boolean) (by decide) (by decide)))).other W523 (Or.inl (Ne.symm ne13)))
  have f532 := (Fw520.other W523 (Or.inl (Ne.symm ne13)))
  obtain ⟨_, _, ⟨T524, L524, k524, n524⟩, -, X524, ⟨Lc524, hQ524, l524, y524, z524⟩, st524⟩ := Jvm.LawKit.callS X523 hx (y := (⟨"gatherwick/maps/RedBlackTree", "rotateRight", "(Lgatherwick/maps/RedBlackTree$Node;Lgatherwick/maps/RedBlackTree$Node;)Lgatherwick/maps/RedBlackTree$Node;"⟩ : MethodName)) hown (mvT hZ (own_w hw 181 rfl)) (mvT hZ (own_w hw 182 rfl)) (mvT hZ (own_w hw 144 rfl)) (mvT hZ (own_w hw 183 rfl)) (by decide) (backOf (W := 0) (rmTl l Z a0 hw [] n1 n1 n3 (.ref n2) (.ref n1) (0 : Int32) h523 n0 Z523 f525 g_n1 f526 g_n3 ne13 f527 f528 f529 f530 f531 f532) hZ (own_w hw 183 rfl) (own_w hw 144 rfl) (by decide) (by decide)) (g := (mkF m 96 #[.val (.ref n1), .val (.ref n2), .val (.ref n3), .val (.ref n1), .val .null] [(.ref n1), (.ref n1)])) rfl (by rw [hml]; rfl) (argsL := [(.ref n1), (.ref n1)]) (rest := []) (lenOf pd__Lgatherwick_maps_RedBlackTree_Node_Lgatherwick_maps_RedBlackTree_Node__Lgatherwick_maps_RedBlackTree_Node_ rfl) rfl (by show 2 * 0 + _ ≤ _; exact Nat.le_of_eq rfl) (hb hby d26_96) (fun _ _ => ⟨rfl, e523, (by decide : 0 + 0 ≤ _), (by decide : 0 + 0 ≤ _)⟩)
  dsimp only [Pt.U, Pt.locs, Pt.cells, Pt.slots] at X524 l524 y524 z524 st524 hQ524
  subst l524 y524 z524
  obtain ⟨h524, e524⟩ : ∃ h, T524.heap = h := ⟨_, rfl⟩
  rw [e524] at hQ524
  obtain ⟨rfl, Nq524, Kq524, o_left_524, o_parent_524, y_left_524, y_right_524, y_parent_524, y_red_524⟩ := hQ524
  have N524 := Fr.app N523 Nq524
  have Z524 : n0 ≤ h524.size := Nat.le_trans Z523 Kq524.1
  have KK524 := KK523.trans Kq524 (allS (Or.inl (List.mem_of_getElem? (i := 0) rfl)) (allS (Or.inl (List.mem_of_getElem? (i := 2) rfl)) all0))
  have y_red_524 : Fld Z h524 n3 "gatherwick/maps/RedBlackTree$Node" "red" "Z" (.int (0 : Int32)) := y_red_524
  refine Go.step st524 ?_
  show Go _ _ _ _ _ _ _ T524 (mkF m 99 #[.val (.ref n1), .val (.ref n2), .val (.ref n3), .val (.ref n1), .val .null] [(.ref n3)])
  refine Go.step (fun _ k => XS.astoreN X524.here hx rfl (hb hby d26_99) rfl rfl (l' := #[.val (.ref n3), .val (.ref n2), .val (.ref n3), .val (.ref n1), .val .null]) rfl k) ?_
  show Go _ _ _ _ _ _ _ T524 (mkF m 100 #[.val (.ref n3), .val (.ref n2), .val (.ref n3), .val (.ref n1), .val .null] [])
  refine Go.step (fun _ k => XS.goto X524.here hx rfl (pc0 := 100) (pc' := 175) rfl (hb hby d26_100) (by decide) (by decide) k) ?_
  show Go _ _ _ _ _ _ _ T524 (mkF m 175 #[.val (.ref n3), .val (.ref n2), .val (.ref n3), .val (.ref n1), .val .null] [])
  refine Go.step (fun _ k => XS.goto X524.here hx rfl (pc0 := 175) (pc' := 0) rfl (hb hby d26_175) (by decide) (by decide) k) ?_
  show Go _ _ _ _ _ _ _ T524 (mkF m 0 #[.val (.ref n3), .val (.ref n2), .val (.ref n3), .val (.ref n1), .val .null] [])
  refine Go.step (fun _ k => XS.aloadN X524.here hx rfl (hb hby d26_0) rfl rfl k) ?_
  have f533 := (((o_parent_517.other W520 (Or.inl ne23)).other W523 (Or.inl (Ne.symm ne12))).keep Kq524 (ninS (Ne.symm ne12) (ninS ne23 nin0)))
  obtain ⟨T534, X534, e534, st534⟩ := getF X524 hx hZ hown (host := "") (Or.inl (own_w hw 146 rfl)) Via.refl e524 f533 (g := (mkF m 1 #[.val (.ref n3), .val (.ref n2), .val (.ref n3), .val (.ref n1), .val .null] [(.ref n2)])) rfl rfl (hb hby d26_1)
  refine Go.step st534 ?_
  show Go _ _ _ _ _ _ _ T534 (mkF m 4 #[.val (.ref n3), .val (.ref n2), .val (.ref n3), .val (.ref n1), .val .null] [(.ref n3)])
  obtain ⟨_, _, ⟨T535, L535, k535, n535⟩, -, X535, ⟨Lc535, hQ535, l535, y535, z535⟩, st535⟩ := Jvm.LawKit.callS X534 hx (y := (⟨"gatherwick/maps/RedBlackTree", "isRed", "(Lgatherwick/maps/RedBlackTree$Node;)Z"⟩ : MethodName)) hown (mvT hZ (own_w hw 150 rfl)) (mvT hZ (own_w hw 151 rfl)) (mvT hZ (own_w hw 144 rfl)) (mvT hZ (own_w hw 152 rfl)) (by decide) (backOf (W := 0) (rmRz l Z a0 hw [] n3 h524 n0 Z524 y_red_524) hZ (own_w hw 152 rfl) (own_w hw 144 rfl) (by decide) (by decide)) (g := (mkF m 4 #[.val (.ref n3), .val (.ref n2), .val (.ref n3), .val (.ref n1), .val .null] [(.ref n3)])) rfl (by rw [hml]; rfl) (argsL := [(.ref n3)]) (rest := []) (lenOf pd__Lgatherwick_maps_RedBlackTree_Node__Z rfl) rfl (by show 2 * 0 + _ ≤ _; exact Nat.le_of_eq rfl) (hb hby d26_4) (fun _ _ => ⟨rfl, e534, (by decide : 0 + 0 ≤ _), (by decide : 0 + 0 ≤ _)⟩)
  dsimp only [Pt.U, Pt.locs, Pt.cells, Pt.slots] at X535 l535 y535 z535 st535 hQ535
  subst l535 y535 z535
  obtain ⟨h535, e535⟩ : ∃ h, T535.heap = h := ⟨_, rfl⟩
  rw [e535] at hQ535
  obtain ⟨rfl, Nq535, hs535⟩ := hQ535
  have N535 := Fr.app N524 Nq535
  rw [hs535] at e535
  refine Go.step st535 ?_
  show Go _ _ _ _ _ _ _ T535 (mkF m 7 #[.val (.ref n3), .val (.ref n2), .val (.ref n3), .val (.ref n1), .val .null] [(.int (0 : Int32))])
  have hc7_536 : (0 : Int32) = (0 : Int32) := (by decide)
  refine Go.step (fun _ k => XS.ifYes X535.here hx rfl (pc0 := 7) (pc' := 178) rfl (hb hby d26_7) rfl ((if0 _ _).trans (teq hc7_536).1) (by decide) (by decide) k) ?_
  show Go _ _ _ _ _ _ _ T535 (mkF m 178 #[.val (.ref n3), .val (.ref n2), .val (.ref n3), .val (.ref n1), .val .null] [])
  refine Go.step (fun _ k => XS.aloadN X535.here hx rfl (hb hby d26_178) rfl rfl k) ?_
  refine Go.step (fun _ k => XS.iconst X535.here hx rfl (hb hby d26_179) k) ?_
  have f537 := (f526.keep Kq524)
  obtain ⟨T538, h538, X538, e538, W538, st538⟩ := putFN X535 hx hZ hown (own_w hw 153 rfl) Via.refl e535 y_red_524 f537 (Or.inl (own_w hw 133 rfl)) (own_w hw 119 rfl) (ty := .boolean) (v' := (.int (0 : Int32))) (by decide) rfl rfl (g := (mkF m 180 #[.val (.ref n3), .val (.ref n2), .val (.ref n3), .val (.ref n1), .val .null] [(.int (0 : Int32)), (.ref n3)])) rfl rfl (hb hby d26_180)
  refine Go.step st538 ?_
  have Fw538 := y_red_524.same W538
  have N538 := Fr.snoc X538 N535 g_n3
  have Z538 : n0 ≤ h538.size := Nat.le_trans Z524 (Keep.of_wr W538).1
  have KK538 := KK524.wr W538 (Or.inl (List.mem_of_getElem? (i := 2) rfl))
  show Go _ _ _ _ _ _ _ T538 (mkF m 183 #[.val (.ref n3), .val (.ref n2), .val (.ref n3), .val (.ref n1), .val .null] [])
  refine Go.step (fun _ k => XS.aloadN X538.here hx rfl (hb hby d26_183) rfl rfl k) ?_
  exact Go.retA X538 hx hret hlk rfl rfl (hb hby d26_184) e538 (by decide) (by decide) ⟨rfl, N538, KK538⟩
theorem ef_rmBWrl (m : MethodId) (n1 : Addr) (n3 : Addr) : entryFrame m #[(.ref n1), (.ref n3)] 5 = mkF m 0 #[.val (.ref n1), .val (.ref n3), .unset, .unset, .unset] [] := by first | (simp [entryFrame, mkF, argsToLocals, Value.category]; done) | rfl
def Q_rmBWrl (Z : State) (n1 : Addr) (n3 : Addr) (n2 : Addr) (h0 : Heap) (n0 : Nat) (v : Option Value) (h : Heap) (L : List Loc) : Prop := (v = some (.ref n3)) ∧ (Fr n0 L) ∧ (Keep h0 h [n1, n2, n3])
theorem rmBWrl (l : Launch) (Z : State) (a0 : Array Value) (hw : ∀ d ∈ tables_1, d.before a0 Z = true) (ws : List Jvm.Cond) (n1 : Addr) (n3 : Addr) (n2 : Addr) (h0 : Heap) (n0 : Nat) (Z0 : n0 ≤ h0.size) (E_n1 : Exa Z h0 n1 "gatherwick/maps/RedBlackTree$Node") (g_n1 : n0 ≤ n1) (E_n2 : Exa Z h0 n2 "gatherwick/maps/RedBlackTree$Node") (g_n2 : n0 ≤ n2) (E_n3 : Exa Z h0 n3 "gatherwick/maps/RedBlackTree$Node") (g_n3 : n0 ≤ n3) (ne12 : n1 ≠ n2) (ne13 : n1 ≠ n3) (ne23 : n2 ≠ n3) (c_right : Fld Z h0 n1 "gatherwick/maps/RedBlackTree$Node" "right" "Lgatherwick/maps/RedBlackTree$Node;" (.ref n2)) (c_left : Fld Z h0 n1 "gatherwick/maps/RedBlackTree$Node" "left" "Lgatherwick/maps/RedBlackTree$Node;" .null) (c_parent : Fld Z h0 n1 "gatherwick/maps/RedBlackTree$Node" "parent" "Lgatherwick/maps/RedBlackTree$Node;" .null) (c_red : Fld Z h0 n1 "gatherwick/maps/RedBlackTree$Node" "red" "Z" (.int (0 : Int32))) (d_left : Fld Z h0 n2 "gatherwick/maps/RedBlackTree$Node" "left" "Lgatherwick/maps/RedBlackTree$Node;" (.ref n3)) (d_right : Fld Z h0 n2 "gatherwick/maps/RedBlackTree$Node" "right" "Lgatherwick/maps/RedBlackTree$Node;" .null) (d_parent : Fld Z h0 n2 "gatherwick/maps/RedBlackTree$Node" "parent" "Lgatherwick/maps/RedBlackTree$Node;" (.ref n1)) (d_red : Fld Z h0 n2 "gatherwick/maps/RedBlackTree$Node" "red" "Z" (.int (1 : Int32))) (a_left : Fld Z h0 n3 "gatherwick/maps/RedBlackTree$Node" "left" "Lgatherwick/maps/RedBlackTree$Node;" .null) (a_right : Fld Z h0 n3 "gatherwick/maps/RedBlackTree$Node" "right" "Lgatherwick/maps/RedBlackTree$Node;" .null) (a_parent : Fld Z h0 n3 "gatherwick/maps/RedBlackTree$Node" "parent" "Lgatherwick/maps/RedBlackTree$Node;" (.ref n2)) (a_red : Fld Z h0 n3 "gatherwick/maps/RedBlackTree$Node" "red" "Z" (.int (1 : Int32))) :
    MetFree l (⟨"gatherwick/maps/RedBlackTree", "rebalanceAfterLink", "(Lgatherwick/maps/RedBlackTree$Node;Lgatherwick/maps/RedBlackTree$Node;)Lgatherwick/maps/RedBlackTree$Node;"⟩ : MethodName) (head1 (Jvm.Cond.code (⟨"gatherwick/maps/RedBlackTree", "rebalanceAfterLink", "(Lgatherwick/maps/RedBlackTree$Node;Lgatherwick/maps/RedBlackTree$Node;)Lgatherwick/maps/RedBlackTree$Node;"⟩ : MethodName) prog_57_method_3_code 5 (some (.object "gatherwick/maps/RedBlackTree$Node")) :: ws) ({ frames := 2, cells := 0, slots := 0, locals := 29 } : Room)) (fun aA U => aA = #[(.ref n1), (.ref n3)] ∧ Z.Warmed39 U.vm ∧ U.heap = h0) (fun _ _ _ _ _ => True) (fun _ U o U' => ∃ v L, o = .returned v ∧ Q_rmBWrl Z n1 n3 n2 h0 n0 v U'.heap L ∧ FrameEnd U o U' L ({ frames := 2, cells := 0, slots := 0, locals := 29 } : Room).cells ({ frames := 2, cells := 0, slots := 0, locals := 29 } : Room).slots) := by
  refine MetFree.of_bodySF (plainFor_of_name pn_gatherwick_maps_RedBlackTree) hisR ?_
  intro p e s m args below meth c s₁ Bd hml0 hP hK
  obtain ⟨rfl, hZ, hh⟩ := hP
  have hx := Bd.exec
  have hby := Bd.bytes
  have hml : c.maxLocals = 5 := hml0
  have hown : s.vm.findClass "gatherwick/maps/RedBlackTree" = some m.cls := findClass_of_methodNamed Bd.named
  have hnm := (name_of_methodNamed Bd.named Bd.method).1
  have hret := Bd.returns
  have hlk : meth.locks = false := BodyLoose.notSynchronized Bd
  have X0 : Stand p l e ({ frames := 2, cells := 0, slots := 0, locals := 29 } : Room) s m #[(.ref n1), (.ref n3)] below meth c s₁ [] 0 0 := Stand.of_body Bd
  have e0 : s₁.heap = h0 := by rw [← hh, Bd.state]; rfl
  have N0 := Fr.nil n0
  suffices hgo : Go p e below s ({ frames := 2, cells := 0, slots := 0, locals := 29 } : Room).cells ({ frames := 2, cells := 0, slots := 0, locals := 29 } : Room).slots (Q_rmBWrl Z n1 n3 n2 h0 n0) s₁ (mkF m 0 #[.val (.ref n1), .val (.ref n3), .unset, .unset, .unset] []) from hgo.enter (ef_rmBWrl m n1 n3)
  refine Go.step (fun _ k => XS.aloadN X0.here hx rfl (hb hby d26_0) rfl rfl k) ?_
  obtain ⟨T539, X539, e539, st539⟩ := getF X0 hx hZ hown (host := "") (Or.inl (own_w hw 146 rfl)) Via.refl e0 a_parent (g := (mkF m 1 #[.val (.ref n1), .val (.ref n3), .unset, .unset, .unset] [(.ref n3)])) rfl rfl (hb hby d26_1)
  refine Go.step st539 ?_
  show Go _ _ _ _ _ _ _ T539 (mkF m 4 #[.val (.ref n1), .val (.ref n3), .unset, .unset, .unset] [(.ref n2)])
  obtain ⟨_, _, ⟨T540, L540, k540, n540⟩, -, X540, ⟨Lc540, hQ540, l540, y540, z540⟩, st540⟩ := Jvm.LawKit.callS X539 hx (y := (⟨"gatherwick/maps/RedBlackTree", "isRed", "(Lgatherwick/maps/RedBlackTree$Node;)Z"⟩ : MethodName)) hown (mvT hZ (own_w hw 150 rfl)) (mvT hZ (own_w hw 151 rfl)) (mvT hZ (own_w hw 144 rfl)) (mvT hZ (own_w hw 152 rfl)) (by decide) (backOf (W := 0) (rmRo l Z a0 hw [] n2 h0 n0 Z0 d_red) hZ (own_w hw 152 rfl) (own_w hw 144 rfl) (by decide) (by decide)) (g := (mkF m 4 #[.val (.ref n1), .val (.ref n3), .unset, .unset, .unset] [(.ref n2)])) rfl (by rw [hml]; rfl) (argsL := [(.ref n2)]) (rest := []) (lenOf pd__Lgatherwick_maps_RedBlackTree_Node__Z rfl) rfl (by show 2 * 0 + _ ≤ _; exact Nat.le_of_eq rfl) (hb hby d26_4) (fun _ _ => ⟨rfl, e539, (by decide : 0 + 0 ≤ _), (by decide : 0 + 0 ≤ _)⟩)
  dsimp only [Pt.U, Pt.locs, Pt.cells, Pt.slots] at X540 l540 y540 z540 st540 hQ540
  subst l540 y540 z540
  obtain ⟨h540, e540⟩ : ∃ h, T540.heap = h := ⟨_, rfl⟩
  rw [e540] at hQ540
  obtain ⟨rfl, Nq540, hs540⟩ := hQ540
  have N540 := Fr.app N0 Nq540
  rw [hs540] at e540
  refine Go.step st540 ?_
  show Go _ _ _ _ _ _ _ T540 (mkF m 7 #[.val (.ref n1), .val (.ref n3), .unset, .unset, .unset] [(.int (1 : Int32))])
  have hc7_541 : ¬ ((1 : Int32) = (0 : Int32)) := (by decide)
  refine Go.step (fun _ k => XS.ifNo X540.here hx rfl (hb hby d26_7) rfl ((if0 _ _).trans (feq hc7_541).1) k) ?_
  show Go _ _ _ _ _ _ _ T540 (mkF m 10 #[.val (.ref n1), .val (.ref n3), .unset, .unset, .unset] [])
  refine Go.step (fun _ k => XS.aloadN X540.here hx rfl (hb hby d26_10) rfl rfl k) ?_
  obtain ⟨T542, X542, e542, st542⟩ := getF X540 hx hZ hown (host := "") (Or.inl (own_w hw 146 rfl)) Via.refl e540 a_parent (g := (mkF m 11 #[.val (.ref n1), .val (.ref n3), .unset, .unset, .unset] [(.ref n3)])) rfl rfl (hb hby d26_11)
  refine Go.step st542 ?_
  show Go _ _ _ _ _ _ _ T542 (mkF m 14 #[.val (.ref n1), .val (.ref n3), .unset, .unset, .unset] [(.ref n2)])
  refine Go.step (fun _ k => XS.astoreN X542.here hx rfl (hb hby d26_14) rfl rfl (l' := #[.val (.ref n1), .val (.ref n3), .val (.ref n2), .unset, .unset]) rfl k) ?_
  show Go _ _ _ _ _ _ _ T542 (mkF m 15 #[.val (.ref n1), .val (.ref n3), .val (.ref n2), .unset, .unset] [])
  refine Go.step (fun _ k => XS.aloadN X542.here hx rfl (hb hby d26_15) rfl rfl k) ?_
  obtain ⟨T543, X543, e543, st543⟩ := getF X542 hx hZ hown (host := "") (Or.inl (own_w hw 146 rfl)) Via.refl e542 d_parent (g := (mkF m 16 #[.val (.ref n1), .val (.ref n3), .val (.ref n2), .unset, .unset] [(.ref n2)])) rfl rfl (hb hby d26_16)
  refine Go.step st543 ?_
  show Go _ _ _ _ _ _ _ T543 (mkF m 19 #[.val (.ref n1), .val (.ref n3), .val (.ref n2), .unset, .unset] [(.ref n1)])
  refine Go.step (fun _ k => XS.astoreN X543.here hx rfl (hb hby d26_19) rfl rfl (l' := #[.val (.ref n1), .val (.ref n3), .val (.ref n2), .val (.ref n1), .unset]) rfl k) ?_
  show Go _ _ _ _ _ _ _ T543 (mkF m 20 #[.val (.ref n1), .val (.ref n3), .val (.ref n2), .val (.ref n1), .unset] [])
  refine Go.step (fun _ k => XS.aloadN X543.here hx rfl (hb hby d26_20) rfl rfl k) ?_
  refine Go.step (fun _ k => XS.aloadN X543.here hx rfl (hb hby d26_21) rfl rfl k) ?_
  obtain ⟨T544, X544, e544, st544⟩ := getF X543 hx hZ hown (host := "") (Or.inl (own_w hw 180 rfl)) Via.refl e543 c_left (g := (mkF m 22 #[.val (.ref n1), .val (.ref n3), .val (.ref n2), .val (.ref n1), .unset] [(.ref n1), (.ref n2)])) rfl rfl (hb hby d26_22)
  refine Go.step st544 ?_
  show Go _ _ _ _ _ _ _ T544 (mkF m 25 #[.val (.ref n1), .val (.ref n3), .val (.ref n2), .val (.ref n1), .unset] [.null, (.ref n2)])
  refine Go.step (fun _ k => Jvm.RoadKit.acmp (g := (mkF m 25 #[.val (.ref n1), .val (.ref n3), .val (.ref n2), .val (.ref n1), .unset] [.null, (.ref n2)])) X544 hx rfl rfl rfl (pc0 := 25) (pc' := 103) (same := false) rfl (hb hby d26_25) rfl (decide_eq_false nofun) (by decide) (by decide) k) ?_
  show Go _ _ _ _ _ _ _ T544 (mkF m 103 #[.val (.ref n1), .val (.ref n3), .val (.ref n2), .val (.ref n1), .unset] [])
  refine Go.step (fun _ k => XS.aloadN X544.here hx rfl (hb hby d26_103) rfl rfl k) ?_
  obtain ⟨T545, X545, e545, st545⟩ := getF X544 hx hZ hown (host := "") (Or.inl (own_w hw 180 rfl)) Via.refl e544 c_left (g := (mkF m 104 #[.val (.ref n1), .val (.ref n3), .val (.ref n2), .val (.ref n1), .unset] [(.ref n1)])) rfl rfl (hb hby d26_104)
  refine Go.step st545 ?_
  show Go _ _ _ _ _ _ _ T545 (mkF m 107 #[.val (.ref n1), .val (.ref n3), .val (.ref n2), .val (.ref n1), .unset] [.null])
  refine Go.step (fun _ k => XS.astore X545.here hx rfl (hb hby d26_107) rfl rfl (l' := #[.val (.ref n1), .val (.ref n3), .val (.ref n2), .val (.ref n1), .val .null]) rfl k) ?_
  show Go _ _ _ _ _ _ _ T545 (mkF m 109 #[.val (.ref n1), .val (.ref n3), .val (.ref n2), .val (.ref n1), .val .null] [])
  refine Go.step (fun _ k => XS.aload X545.here hx rfl (hb hby d26_109) rfl rfl k) ?_
  obtain ⟨_, _, ⟨T546, L546, k546, n546⟩, -, X546, ⟨Lc546, hQ546, l546, y546, z546⟩, st546⟩ := Jvm.LawKit.callS X545 hx (y := (⟨"gatherwick/maps/RedBlackTree", "isRed", "(Lgatherwick/maps/RedBlackTree$Node;)Z"⟩ : MethodName)) hown (mvT hZ (own_w hw 150 rfl)) (mvT hZ (own_w hw 151 rfl)) (mvT hZ (own_w hw 144 rfl)) (mvT hZ (own_w hw 152 rfl)) (by decide) (backOf (W := 0) (rmRn l Z a0 hw []  h0 n0 Z0 ) hZ (own_w hw 152 rfl) (own_w hw 144 rfl) (by decide) (by decide)) (g := (mkF m 111 #[.val (.ref n1), .val (.ref n3), .val (.ref n2), .val (.ref n1), .val .null] [.null])) rfl (by rw [hml]; rfl) (argsL := [.null]) (rest := []) (lenOf pd__Lgatherwick_maps_RedBlackTree_Node__Z rfl) rfl (by show 2 * 0 + _ ≤ _; exact Nat.le_of_eq rfl) (hb hby d26_111) (fun _ _ => ⟨rfl, e545, (by decide : 0 + 0 ≤ _), (by decide : 0 + 0 ≤ _)⟩)
  dsimp only [Pt.U, Pt.locs, Pt.cells, Pt.slots] at X546 l546 y546 z546 st546 hQ546
  subst l546 y546 z546
  obtain ⟨h546, e546⟩ : ∃ h, T546.heap = h := ⟨_, rfl⟩
  rw [e546] at hQ546
  obtain ⟨rfl, Nq546, hs546⟩ := hQ546
  have N546 := Fr.app N540 Nq546
  rw [hs546] at e546
  refine Go.step st546 ?_
  show Go _ _ _ _ _ _ _ T546 (mkF m 114 #[.val (.ref n1), .val (.ref n3), .val (.ref n2), .val (.ref n1), .val .null] [(.int (0 : Int32))])
  have hc114_547 : (0 : Int32) = (0 : Int32) := (by decide)
  refine Go.step (fun _ k => XS.ifYes X546.here hx rfl (pc0 := 114) (pc' := 138) rfl (hb hby d26_114) rfl ((if0 _ _).trans (teq hc114_547).1) (by decide) (by decide) k) ?_
  show Go _ _ _ _ _ _ _ T546 (mkF m 138 #[.val (.ref n1), .val (.ref n3), .val (.ref n2), .val (.ref n1), .val .null] [])
  refine Go.step (fun _ k => XS.aloadN X546.here hx rfl (hb hby d26_138) rfl rfl k) ?_
  refine Go.step (fun _ k => XS.aloadN X546.here hx rfl (hb hby d26_139) rfl rfl k) ?_
  obtain ⟨T548, X548, e548, st548⟩ := getF X546 hx hZ hown (host := "") (Or.inl (own_w hw 180 rfl)) Via.refl e546 d_left (g := (mkF m 140 #[.val (.ref n1), .val (.ref n3), .val (.ref n2), .val (.ref n1), .val .null] [(.ref n2), (.ref n3)])) rfl rfl (hb hby d26_140)
  refine Go.step st548 ?_
  show Go _ _ _ _ _ _ _ T548 (mkF m 143 #[.val (.ref n1), .val (.ref n3), .val (.ref n2), .val (.ref n1), .val .null] [(.ref n3), (.ref n3)])
  refine Go.step (fun _ k => Jvm.RoadKit.acmp (g := (mkF m 143 #[.val (.ref n1), .val (.ref n3), .val (.ref n2), .val (.ref n1), .val .null] [(.ref n3), (.ref n3)])) X548 hx rfl rfl rfl (pc0 := 143) (pc' := 146) (same := true) rfl (hb hby d26_143) rfl (decide_eq_true rfl) (by decide) (by decide) k) ?_
  show Go _ _ _ _ _ _ _ T548 (mkF m 146 #[.val (.ref n1), .val (.ref n3), .val (.ref n2), .val (.ref n1), .val .null] [])
  refine Go.step (fun _ k => XS.aloadN X548.here hx rfl (hb hby d26_146) rfl rfl k) ?_
  refine Go.step (fun _ k => XS.astoreN X548.here hx rfl (hb hby d26_147) rfl rfl (l' := #[.val (.ref n1), .val (.ref n2), .val (.ref n2), .val (.ref n1), .val .null]) rfl k) ?_
  show Go _ _ _ _ _ _ _ T548 (mkF m 148 #[.val (.ref n1), .val (.ref n2), .val (.ref n2), .val (.ref n1), .val .null] [])
  refine Go.step (fun _ k => XS.aloadN X548.here hx rfl (hb hby d26_148) rfl rfl k) ?_
  refine Go.step (fun _ k => XS.aloadN X548.here hx rfl (hb hby d26_149) rfl rfl k) ?_
  obtain ⟨_, _, ⟨T549, L549, k549, n549⟩, -, X549, ⟨Lc549, hQ549, l549, y549, z549⟩, st549⟩ := Jvm.LawKit.callS X548 hx (y := (⟨"gatherwick/maps/RedBlackTree", "rotateRight", "(Lgatherwick/maps/RedBlackTree$Node;Lgatherwick/maps/RedBlackTree$Node;)Lgatherwick/maps/RedBlackTree$Node;"⟩ : MethodName)) hown (mvT hZ (own_w hw 181 rfl)) (mvT hZ (own_w hw 182 rfl)) (mvT hZ (own_w hw 144 rfl)) (mvT hZ (own_w hw 183 rfl)) (by decide) (backOf (W := 0) (rmUl l Z a0 hw [] n1 n2 n3 .null (.ref n2) (1 : Int32) n1 .null (0 : Int32) h0 n0 Z0 E_n2 g_n2 E_n3 g_n3 E_n1 g_n1 ne23 ne12 ne13 d_left d_parent a_left a_right a_parent a_red c_right c_left c_parent c_red) hZ (own_w hw 183 rfl) (own_w hw 144 rfl) (by decide) (by decide)) (g := (mkF m 150 #[.val (.ref n1), .val (.ref n2), .val (.ref n2), .val (.ref n1), .val .null] [(.ref n2), (.ref n1)])) rfl (by rw [hml]; rfl) (argsL := [(.ref n1), (.ref n2)]) (rest := []) (lenOf pd__Lgatherwick_maps_RedBlackTree_Node_Lgatherwick_maps_RedBlackTree_Node__Lgatherwick_maps_RedBlackTree_Node_ rfl) rfl (by show 2 * 0 + _ ≤ _; exact Nat.le_of_eq rfl) (hb hby d26_150) (fun _ _ => ⟨rfl, e548, (by decide : 0 + 0 ≤ _), (by decide : 0 + 0 ≤ _)⟩)
  dsimp only [Pt.U, Pt.locs, Pt.cells, Pt.slots] at X549 l549 y549 z549 st549 hQ549
  subst l549 y549 z549
  obtain ⟨h549, e549⟩ : ∃ h, T549.heap = h := ⟨_, rfl⟩
  rw [e549] at hQ549
  obtain ⟨rfl, Nq549, Kq549, o_left_549, o_parent_549, y_left_549, y_right_549, y_parent_549, y_red_549, h_right_549, h_left_549, h_parent_549, h_red_549⟩ := hQ549
  have N549 := Fr.app N546 Nq549
  have Z549 : n0 ≤ h549.size := Nat.le_trans Z0 Kq549.1
  have KK549 := (Keep.refl h0 [n1, n2, n3]).trans Kq549 (allS (Or.inl (List.mem_of_getElem? (i := 1) rfl)) (allS (Or.inl (List.mem_of_getElem? (i := 2) rfl)) (allS (Or.inl (List.mem_of_getElem? (i := 0) rfl)) all0)))
  have y_red_549 : Fld Z h549 n3 "gatherwick/maps/RedBlackTree$Node" "red" "Z" (.int (1 : Int32)) := y_red_549
  have h_red_549 : Fld Z h549 n1 "gatherwick/maps/RedBlackTree$Node" "red" "Z" (.int (0 : Int32)) := h_red_549
  refine Go.step st549 ?_
  show Go _ _ _ _ _ _ _ T549 (mkF m 153 #[.val (.ref n1), .val (.ref n2), .val (.ref n2), .val (.ref n1), .val .null] [(.ref n1)])
  refine Go.step (fun _ k => XS.astoreN X549.here hx rfl (hb hby d26_153) rfl rfl (l' := #[.val (.ref n1), .val (.ref n2), .val (.ref n2), .val (.ref n1), .val .null]) rfl k) ?_
  show Go _ _ _ _ _ _ _ T549 (mkF m 154 #[.val (.ref n1), .val (.ref n2), .val (.ref n2), .val (.ref n1), .val .null] [])
  refine Go.step (fun _ k => XS.aloadN X549.here hx rfl (hb hby d26_154) rfl rfl k) ?_
  obtain ⟨T550, X550, e550, st550⟩ := getF X549 hx hZ hown (host := "") (Or.inl (own_w hw 146 rfl)) Via.refl e549 o_parent_549 (g := (mkF m 155 #[.val (.ref n1), .val (.ref n2), .val (.ref n2), .val (.ref n1), .val .null] [(.ref n2)])) rfl rfl (hb hby d26_155)
  refine Go.step st550 ?_
  show Go _ _ _ _ _ _ _ T550 (mkF m 158 #[.val (.ref n1), .val (.ref n2), .val (.ref n2), .val (.ref n1), .val .null] [(.ref n3)])
  refine Go.step (fun _ k => XS.astoreN X550.here hx rfl (hb hby d26_158) rfl rfl (l' := #[.val (.ref n1), .val (.ref n2), .val (.ref n3), .val (.ref n1), .val .null]) rfl k) ?_
  show Go _ _ _ _ _ _ _ T550 (mkF m 159 #[.val (.ref n1), .val (.ref n2), .val (.ref n3), .val (.ref n1), .val .null] [])
  refine Go.step (fun _ k => XS.aloadN X550.here hx rfl (hb hby d26_159) rfl rfl k) ?_
  refine Go.step (fun _ k => XS.iconst X550.here hx rfl (hb hby d26_160) k) ?_
  have f551 := (E_n3.keep Kq549)
  obtain ⟨T552, h552, X552, e552, W552, st552⟩ := putFN X550 hx hZ hown (own_w hw 153 rfl) Via.refl e550 y_red_549 f551 (Or.inl (own_w hw 133 rfl)) (own_w hw 119 rfl) (ty := .boolean) (v' := (.int (0 : Int32))) (by decide) rfl rfl (g := (mkF m 161 #[.val (.ref n1), .val (.ref n2), .val (.ref n3), .val (.ref n1), .val .null] [(.int (0 : Int32)), (.ref n3)])) rfl rfl (hb hby d26_161)
  refine Go.step st552 ?_
  have Fw552 := y_red_549.same W552
  have N552 := Fr.snoc X552 N549 g_n3
  have Z552 : n0 ≤ h552.size := Nat.le_trans Z549 (Keep.of_wr W552).1
  have KK552 := KK549.wr W552 (Or.inl (List.mem_of_getElem? (i := 2) rfl))
  show Go _ _ _ _ _ _ _ T552 (mkF m 164 #[.val (.ref n1), .val (.ref n2), .val (.ref n3), .val (.ref n1), .val .null] [])
  refine Go.step (fun _ k => XS.aloadN X552.here hx rfl (hb hby d26_164) rfl rfl k) ?_
  refine Go.step (fun _ k => XS.iconst X552.here hx rfl (hb hby d26_165) k) ?_
  have f553 := (h_red_549.other W552 (Or.inl ne13))
  have f554 := ((E_n1.keep Kq549).wr W552)
  obtain ⟨T555, h555, X555, e555, W555, st555⟩ := putFN X552 hx hZ hown (own_w hw 153 rfl) Via.refl e552 f553 f554 (Or.inl (own_w hw 133 rfl)) (own_w hw 119 rfl) (ty := .boolean) (v' := (.int (1 : Int32))) (by decide) rfl rfl (g := (mkF m 166 #[.val (.ref n1), .val (.ref n2), .val (.ref n3), .val (.ref n1), .val .null] [(.int (1 : Int32)), (.ref n1)])) rfl rfl (hb hby d26_166)
  refine Go.step st555 ?_
  have Fw555 := f553.same W555
  have N555 := Fr.snoc X555 N552 g_n1
  have Z555 : n0 ≤ h555.size := Nat.le_trans Z552 (Keep.of_wr W555).1
  have KK555 := KK552.wr W555 (Or.inl (List.mem_of_getElem? (i := 0) rfl))
  show Go _ _ _ _ _ _ _ T555 (mkF m 169 #[.val (.ref n1), .val (.ref n2), .val (.ref n3), .val (.ref n1), .val .null] [])
  refine Go.step (fun _ k => XS.aloadN X555.here hx rfl (hb hby d26_169) rfl rfl k) ?_
  refine Go.step (fun _ k => XS.aloadN X555.here hx rfl (hb hby d26_170) rfl rfl k) ?_
  have f557 := (f554.wr W555)
  have f558 := ((f551.wr W552).wr W555)
  have f559 := ((h_right_549.other W552 (Or.inl ne13)).other W555 (Or.inr (slot_ne (a0 := a0) (C := "gatherwick/maps/RedBlackTree$Node") (Or.inl (own_w hw 176 rfl)) (Or.inl (own_w hw 133 rfl)) (by decide) (t := (.object "gatherwick/maps/RedBlackTree$Node")) (t' := .boolean) (by decide) (by decide))))
  have f560 := ((h_parent_549.other W552 (Or.inl ne13)).other W555 (Or.inr (slot_ne (a0 := a0) (C := "gatherwick/maps/RedBlackTree$Node") (Or.inl (own_w hw 139 rfl)) (Or.inl (own_w hw 133 rfl)) (by decide) (t := (.object "gatherwick/maps/RedBlackTree$Node")) (t' := .boolean) (by decide) (by decide))))
  have f561 := ((y_right_549.other W552 (Or.inr (slot_ne (a0 := a0) (C := "gatherwick/maps/RedBlackTree$Node") (Or.inl (own_w hw 176 rfl)) (Or.inl (own_w hw 133 rfl)) (by decide) (t := (.object "gatherwick/maps/RedBlackTree$Node")) (t' := .boolean) (by decide) (by decide)))).other W555 (Or.inl (Ne.symm ne13)))
  have f562 := ((y_left_549.other W552 (Or.inr (slot_ne (a0 := a0) (C := "gatherwick/maps/RedBlackTree$Node") (Or.inl (own_w hw 179 rfl)) (Or.inl (own_w hw 133 rfl)) (by decide) (t := (.object "gatherwick/maps/RedBlackTree$Node")) (t' := .boolean) (by decide) (by decide)))).other W555 (Or.inl (Ne.symm ne13)))
  have f563 := ((y_parent_549.other W552 (Or.inr (slot_ne (a0 := a0) (C := "gatherwick/maps/RedBlackTree$Node") (Or.inl (own_w hw 139 rfl)) (Or.inl (own_w hw 133 rfl)) (by decide) (t := (.object "gatherwick/maps/RedBlackTree$Node")) (t' := .boolean) (by decide) (by decide)))).other W555 (Or.inl (Ne.symm ne13)))
  have f564 := (Fw552.other W555 (Or.inl (Ne.symm ne13)))
  obtain ⟨_, _, ⟨T556, L556, k556, n556⟩, -, X556, ⟨Lc556, hQ556, l556, y556, z556⟩, st556⟩ := Jvm.LawKit.callS X555 hx (y := (⟨"gatherwick/maps/RedBlackTree", "rotateLeft", "(Lgatherwick/maps/RedBlackTree$Node;Lgatherwick/maps/RedBlackTree$Node;)Lgatherwick/maps/RedBlackTree$Node;"⟩ : MethodName)) hown (mvT hZ (own_w hw 187 rfl)) (mvT hZ (own_w hw 188 rfl)) (mvT hZ (own_w hw 144 rfl)) (mvT hZ (own_w hw 189 rfl)) (by decide) (backOf (W := 0) (rmTr l Z a0 hw [] n1 n1 n3 (.ref n2) (.ref n1) (0 : Int32) h555 n0 Z555 f557 g_n1 f558 g_n3 ne13 f559 f560 f561 f562 f563 f564) hZ (own_w hw 189 rfl) (own_w hw 144 rfl) (by decide) (by decide)) (g := (mkF m 171 #[.val (.ref n1), .val (.ref n2), .val (.ref n3), .val (.ref n1), .val .null] [(.ref n1), (.ref n1)])) rfl (by rw [hml]; rfl) (argsL := [(.ref n1), (.ref n1)]) (rest := []) (lenOf pd__Lgatherwick_maps_RedBlackTree_Node_Lgatherwick_maps_RedBlackTree_Node__Lgatherwick_maps_RedBlackTree_Node_ rfl) rfl (by show 2 * 0 + _ ≤ _; exact Nat.le_of_eq rfl) (hb hby d26_171) (fun _ _ => ⟨rfl, e555, (by decide : 0 + 0 ≤ _), (by decide : 0 + 0 ≤ _)⟩)
  dsimp only [Pt.U, Pt.locs, Pt.cells, Pt.slots] at X556 l556 y556 z556 st556 hQ556
  subst l556 y556 z556
  obtain ⟨h556, e556⟩ : ∃ h, T556.heap = h := ⟨_, rfl⟩
  rw [e556] at hQ556
  obtain ⟨rfl, Nq556, Kq556, o_right_556, o_parent_556, y_right_556, y_left_556, y_parent_556, y_red_556⟩ := hQ556
  have N556 := Fr.app N555 Nq556
  have Z556 : n0 ≤ h556.size := Nat.le_trans Z555 Kq556.1
  have KK556 := KK555.trans Kq556 (allS (Or.inl (List.mem_of_getElem? (i := 0) rfl)) (allS (Or.inl (List.mem_of_getElem? (i := 2) rfl)) all0))
  have y_red_556 : Fld Z h556 n3 "gatherwick/maps/RedBlackTree$Node" "red" "Z" (.int (0 : Int32)) := y_red_556
  refine Go.step st556 ?_
  show Go _ _ _ _ _ _ _ T556 (mkF m 174 #[.val (.ref n1), .val (.ref n2), .val (.ref n3), .val (.ref n1), .val .null] [(.ref n3)])
  refine Go.step (fun _ k => XS.astoreN X556.here hx rfl (hb hby d26_174) rfl rfl (l' := #[.val (.ref n3), .val (.ref n2), .val (.ref n3), .val (.ref n1), .val .null]) rfl k) ?_
  show Go _ _ _ _ _ _ _ T556 (mkF m 175 #[.val (.ref n3), .val (.ref n2), .val (.ref n3), .val (.ref n1), .val .null] [])
  refine Go.step (fun _ k => XS.goto X556.here hx rfl (pc0 := 175) (pc' := 0) rfl (hb hby d26_175) (by decide) (by decide) k) ?_
  show Go _ _ _ _ _ _ _ T556 (mkF m 0 #[.val (.ref n3), .val (.ref n2), .val (.ref n3), .val (.ref n1), .val .null] [])
  refine Go.step (fun _ k => XS.aloadN X556.here hx rfl (hb hby d26_0) rfl rfl k) ?_
  have f565 := (((o_parent_549.other W552 (Or.inl ne23)).other W555 (Or.inl (Ne.symm ne12))).keep Kq556 (ninS (Ne.symm ne12) (ninS ne23 nin0)))
  obtain ⟨T566, X566, e566, st566⟩ := getF X556 hx hZ hown (host := "") (Or.inl (own_w hw 146 rfl)) Via.refl e556 f565 (g := (mkF m 1 #[.val (.ref n3), .val (.ref n2), .val (.ref n3), .val (.ref n1), .val .null] [(.ref n2)])) rfl rfl (hb hby d26_1)
  refine Go.step st566 ?_
  show Go _ _ _ _ _ _ _ T566 (mkF m 4 #[.val (.ref n3), .val (.ref n2), .val (.ref n3), .val (.ref n1), .val .null] [(.ref n3)])
  obtain ⟨_, _, ⟨T567, L567, k567, n567⟩, -, X567, ⟨Lc567, hQ567, l567, y567, z567⟩, st567⟩ := Jvm.LawKit.callS X566 hx (y := (⟨"gatherwick/maps/RedBlackTree", "isRed", "(Lgatherwick/maps/RedBlackTree$Node;)Z"⟩ : MethodName)) hown (mvT hZ (own_w hw 150 rfl)) (mvT hZ (own_w hw 151 rfl)) (mvT hZ (own_w hw 144 rfl)) (mvT hZ (own_w hw 152 rfl)) (by decide) (backOf (W := 0) (rmRz l Z a0 hw [] n3 h556 n0 Z556 y_red_556) hZ (own_w hw 152 rfl) (own_w hw 144 rfl) (by decide) (by decide)) (g := (mkF m 4 #[.val (.ref n3), .val (.ref n2), .val (.ref n3), .val (.ref n1), .val .null] [(.ref n3)])) rfl (by rw [hml]; rfl) (argsL := [(.ref n3)]) (rest := []) (lenOf pd__Lgatherwick_maps_RedBlackTree_Node__Z rfl) rfl (by show 2 * 0 + _ ≤ _; exact Nat.le_of_eq rfl) (hb hby d26_4) (fun _ _ => ⟨rfl, e566, (by decide : 0 + 0 ≤ _), (by decide : 0 + 0 ≤ _)⟩)
  dsimp only [Pt.U, Pt.locs, Pt.cells, Pt.slots] at X567 l567 y567 z567 st567 hQ567
  subst l567 y567 z567
  obtain ⟨h567, e567⟩ : ∃ h, T567.heap = h := ⟨_, rfl⟩
  rw [e567] at hQ567
  obtain ⟨rfl, Nq567, hs567⟩ := hQ567
  have N567 := Fr.app N556 Nq567
  rw [hs567] at e567
  refine Go.step st567 ?_
  show Go _ _ _ _ _ _ _ T567 (mkF m 7 #[.val (.ref n3), .val (.ref n2), .val (.ref n3), .val (.ref n1), .val .null] [(.int (0 : Int32))])
  have hc7_568 : (0 : Int32) = (0 : Int32) := (by decide)
  refine Go.step (fun _ k => XS.ifYes X567.here hx rfl (pc0 := 7) (pc' := 178) rfl (hb hby d26_7) rfl ((if0 _ _).trans (teq hc7_568).1) (by decide) (by decide) k) ?_
  show Go _ _ _ _ _ _ _ T567 (mkF m 178 #[.val (.ref n3), .val (.ref n2), .val (.ref n3), .val (.ref n1), .val .null] [])
  refine Go.step (fun _ k => XS.aloadN X567.here hx rfl (hb hby d26_178) rfl rfl k) ?_
  refine Go.step (fun _ k => XS.iconst X567.here hx rfl (hb hby d26_179) k) ?_
  have f569 := (f558.keep Kq556)
  obtain ⟨T570, h570, X570, e570, W570, st570⟩ := putFN X567 hx hZ hown (own_w hw 153 rfl) Via.refl e567 y_red_556 f569 (Or.inl (own_w hw 133 rfl)) (own_w hw 119 rfl) (ty := .boolean) (v' := (.int (0 : Int32))) (by decide) rfl rfl (g := (mkF m 180 #[.val (.ref n3), .val (.ref n2), .val (.ref n3), .val (.ref n1), .val .null] [(.int (0 : Int32)), (.ref n3)])) rfl rfl (hb hby d26_180)
  refine Go.step st570 ?_
  have Fw570 := y_red_556.same W570
  have N570 := Fr.snoc X570 N567 g_n3
  have Z570 : n0 ≤ h570.size := Nat.le_trans Z556 (Keep.of_wr W570).1
  have KK570 := KK556.wr W570 (Or.inl (List.mem_of_getElem? (i := 2) rfl))
  show Go _ _ _ _ _ _ _ T570 (mkF m 183 #[.val (.ref n3), .val (.ref n2), .val (.ref n3), .val (.ref n1), .val .null] [])
  refine Go.step (fun _ k => XS.aloadN X570.here hx rfl (hb hby d26_183) rfl rfl k) ?_
  exact Go.retA X570 hx hret hlk rfl rfl (hb hby d26_184) e570 (by decide) (by decide) ⟨rfl, N570, KK570⟩
theorem ef_rmBWrr (m : MethodId) (n1 : Addr) (n3 : Addr) : entryFrame m #[(.ref n1), (.ref n3)] 5 = mkF m 0 #[.val (.ref n1), .val (.ref n3), .unset, .unset, .unset] [] := by first | (simp [entryFrame, mkF, argsToLocals, Value.category]; done) | rfl
def Q_rmBWrr (Z : State) (n1 : Addr) (n3 : Addr) (n2 : Addr) (h0 : Heap) (n0 : Nat) (v : Option Value) (h : Heap) (L : List Loc) : Prop := (v = some (.ref n2)) ∧ (Fr n0 L) ∧ (Keep h0 h [n1, n2])
theorem rmBWrr (l : Launch) (Z : State) (a0 : Array Value) (hw : ∀ d ∈ tables_1, d.before a0 Z = true) (ws : List Jvm.Cond) (n1 : Addr) (n3 : Addr) (n2 : Addr) (h0 : Heap) (n0 : Nat) (Z0 : n0 ≤ h0.size) (E_n1 : Exa Z h0 n1 "gatherwick/maps/RedBlackTree$Node") (g_n1 : n0 ≤ n1) (E_n2 : Exa Z h0 n2 "gatherwick/maps/RedBlackTree$Node") (g_n2 : n0 ≤ n2) (E_n3 : Exa Z h0 n3 "gatherwick/maps/RedBlackTree$Node") (g_n3 : n0 ≤ n3) (ne12 : n1 ≠ n2) (ne13 : n1 ≠ n3) (ne23 : n2 ≠ n3) (c_right : Fld Z h0 n1 "gatherwick/maps/RedBlackTree$Node" "right" "Lgatherwick/maps/RedBlackTree$Node;" (.ref n2)) (c_left : Fld Z h0 n1 "gatherwick/maps/RedBlackTree$Node" "left" "Lgatherwick/maps/RedBlackTree$Node;" .null) (c_parent : Fld Z h0 n1 "gatherwick/maps/RedBlackTree$Node" "parent" "Lgatherwick/maps/RedBlackTree$Node;" .null) (c_red : Fld Z h0 n1 "gatherwick/maps/RedBlackTree$Node" "red" "Z" (.int (0 : Int32))) (d_right : Fld Z h0 n2 "gatherwick/maps/RedBlackTree$Node" "right" "Lgatherwick/maps/RedBlackTree$Node;" (.ref n3)) (d_left : Fld Z h0 n2 "gatherwick/maps/RedBlackTree$Node" "left" "Lgatherwick/maps/RedBlackTree$Node;" .null) (d_parent : Fld Z h0 n2 "gatherwick/maps/RedBlackTree$Node" "parent" "Lgatherwick/maps/RedBlackTree$Node;" (.ref n1)) (d_red : Fld Z h0 n2 "gatherwick/maps/RedBlackTree$Node" "red" "Z" (.int (1 : Int32))) (a_left : Fld Z h0 n3 "gatherwick/maps/RedBlackTree$Node" "left" "Lgatherwick/maps/RedBlackTree$Node;" .null) (a_right : Fld Z h0 n3 "gatherwick/maps/RedBlackTree$Node" "right" "Lgatherwick/maps/RedBlackTree$Node;" .null) (a_parent : Fld Z h0 n3 "gatherwick/maps/RedBlackTree$Node" "parent" "Lgatherwick/maps/RedBlackTree$Node;" (.ref n2)) (a_red : Fld Z h0 n3 "gatherwick/maps/RedBlackTree$Node" "red" "Z" (.int (1 : Int32))) :
    MetFree l (⟨"gatherwick/maps/RedBlackTree", "rebalanceAfterLink", "(Lgatherwick/maps/RedBlackTree$Node;Lgatherwick/maps/RedBlackTree$Node;)Lgatherwick/maps/RedBlackTree$Node;"⟩ : MethodName) (head1 (Jvm.Cond.code (⟨"gatherwick/maps/RedBlackTree", "rebalanceAfterLink", "(Lgatherwick/maps/RedBlackTree$Node;Lgatherwick/maps/RedBlackTree$Node;)Lgatherwick/maps/RedBlackTree$Node;"⟩ : MethodName) prog_57_method_3_code 5 (some (.object "gatherwick/maps/RedBlackTree$Node")) :: ws) ({ frames := 2, cells := 0, slots := 0, locals := 29 } : Room)) (fun aA U => aA = #[(.ref n1), (.ref n3)] ∧ Z.Warmed39 U.vm ∧ U.heap = h0) (fun _ _ _ _ _ => True) (fun _ U o U' => ∃ v L, o = .returned v ∧ Q_rmBWrr Z n1 n3 n2 h0 n0 v U'.heap L ∧ FrameEnd U o U' L ({ frames := 2, cells := 0, slots := 0, locals := 29 } : Room).cells ({ frames := 2, cells := 0, slots := 0, locals := 29 } : Room).slots) := by
  refine MetFree.of_bodySF (plainFor_of_name pn_gatherwick_maps_RedBlackTree) hisR ?_
  intro p e s m args below meth c s₁ Bd hml0 hP hK
  obtain ⟨rfl, hZ, hh⟩ := hP
  have hx := Bd.exec
  have hby := Bd.bytes
  have hml : c.maxLocals = 5 := hml0
  have hown : s.vm.findClass "gatherwick/maps/RedBlackTree" = some m.cls := findClass_of_methodNamed Bd.named
  have hnm := (name_of_methodNamed Bd.named Bd.method).1
  have hret := Bd.returns
  have hlk : meth.locks = false := BodyLoose.notSynchronized Bd
  have X0 : Stand p l e ({ frames := 2, cells := 0, slots := 0, locals := 29 } : Room) s m #[(.ref n1), (.ref n3)] below meth c s₁ [] 0 0 := Stand.of_body Bd
  have e0 : s₁.heap = h0 := by rw [← hh, Bd.state]; rfl
  have N0 := Fr.nil n0
  suffices hgo : Go p e below s ({ frames := 2, cells := 0, slots := 0, locals := 29 } : Room).cells ({ frames := 2, cells := 0, slots := 0, locals := 29 } : Room).slots (Q_rmBWrr Z n1 n3 n2 h0 n0) s₁ (mkF m 0 #[.val (.ref n1), .val (.ref n3), .unset, .unset, .unset] []) from hgo.enter (ef_rmBWrr m n1 n3)
  refine Go.step (fun _ k => XS.aloadN X0.here hx rfl (hb hby d26_0) rfl rfl k) ?_
  obtain ⟨T571, X571, e571, st571⟩ := getF X0 hx hZ hown (host := "") (Or.inl (own_w hw 146 rfl)) Via.refl e0 a_parent (g := (mkF m 1 #[.val (.ref n1), .val (.ref n3), .unset, .unset, .unset] [(.ref n3)])) rfl rfl (hb hby d26_1)
  refine Go.step st571 ?_
  show Go _ _ _ _ _ _ _ T571 (mkF m 4 #[.val (.ref n1), .val (.ref n3), .unset, .unset, .unset] [(.ref n2)])
  obtain ⟨_, _, ⟨T572, L572, k572, n572⟩, -, X572, ⟨Lc572, hQ572, l572, y572, z572⟩, st572⟩ := Jvm.LawKit.callS X571 hx (y := (⟨"gatherwick/maps/RedBlackTree", "isRed", "(Lgatherwick/maps/RedBlackTree$Node;)Z"⟩ : MethodName)) hown (mvT hZ (own_w hw 150 rfl)) (mvT hZ (own_w hw 151 rfl)) (mvT hZ (own_w hw 144 rfl)) (mvT hZ (own_w hw 152 rfl)) (by decide) (backOf (W := 0) (rmRo l Z a0 hw [] n2 h0 n0 Z0 d_red) hZ (own_w hw 152 rfl) (own_w hw 144 rfl) (by decide) (by decide)) (g := (mkF m 4 #[.val (.ref n1), .val (.ref n3), .unset, .unset, .unset] [(.ref n2)])) rfl (by rw [hml]; rfl) (argsL := [(.ref n2)]) (rest := []) (lenOf pd__Lgatherwick_maps_RedBlackTree_Node__Z rfl) rfl (by show 2 * 0 + _ ≤ _; exact Nat.le_of_eq rfl) (hb hby d26_4) (fun _ _ => ⟨rfl, e571, (by decide : 0 + 0 ≤ _), (by decide : 0 + 0 ≤ _)⟩)
  dsimp only [Pt.U, Pt.locs, Pt.cells, Pt.slots] at X572 l572 y572 z572 st572 hQ572
  subst l572 y572 z572
  obtain ⟨h572, e572⟩ : ∃ h, T572.heap = h := ⟨_, rfl⟩
  rw [e572] at hQ572
  obtain ⟨rfl, Nq572, hs572⟩ := hQ572
  have N572 := Fr.app N0 Nq572
  rw [hs572] at e572
  refine Go.step st572 ?_
  show Go _ _ _ _ _ _ _ T572 (mkF m 7 #[.val (.ref n1), .val (.ref n3), .unset, .unset, .unset] [(.int (1 : Int32))])
  have hc7_573 : ¬ ((1 : Int32) = (0 : Int32)) := (by decide)
  refine Go.step (fun _ k => XS.ifNo X572.here hx rfl (hb hby d26_7) rfl ((if0 _ _).trans (feq hc7_573).1) k) ?_
  show Go _ _ _ _ _ _ _ T572 (mkF m 10 #[.val (.ref n1), .val (.ref n3), .unset, .unset, .unset] [])
  refine Go.step (fun _ k => XS.aloadN X572.here hx rfl (hb hby d26_10) rfl rfl k) ?_
  obtain ⟨T574, X574, e574, st574⟩ := getF X572 hx hZ hown (host := "") (Or.inl (own_w hw 146 rfl)) Via.refl e572 a_parent (g := (mkF m 11 #[.val (.ref n1), .val (.ref n3), .unset, .unset, .unset] [(.ref n3)])) rfl rfl (hb hby d26_11)
  refine Go.step st574 ?_
  show Go _ _ _ _ _ _ _ T574 (mkF m 14 #[.val (.ref n1), .val (.ref n3), .unset, .unset, .unset] [(.ref n2)])
  refine Go.step (fun _ k => XS.astoreN X574.here hx rfl (hb hby d26_14) rfl rfl (l' := #[.val (.ref n1), .val (.ref n3), .val (.ref n2), .unset, .unset]) rfl k) ?_
  show Go _ _ _ _ _ _ _ T574 (mkF m 15 #[.val (.ref n1), .val (.ref n3), .val (.ref n2), .unset, .unset] [])
  refine Go.step (fun _ k => XS.aloadN X574.here hx rfl (hb hby d26_15) rfl rfl k) ?_
  obtain ⟨T575, X575, e575, st575⟩ := getF X574 hx hZ hown (host := "") (Or.inl (own_w hw 146 rfl)) Via.refl e574 d_parent (g := (mkF m 16 #[.val (.ref n1), .val (.ref n3), .val (.ref n2), .unset, .unset] [(.ref n2)])) rfl rfl (hb hby d26_16)
  refine Go.step st575 ?_
  show Go _ _ _ _ _ _ _ T575 (mkF m 19 #[.val (.ref n1), .val (.ref n3), .val (.ref n2), .unset, .unset] [(.ref n1)])
  refine Go.step (fun _ k => XS.astoreN X575.here hx rfl (hb hby d26_19) rfl rfl (l' := #[.val (.ref n1), .val (.ref n3), .val (.ref n2), .val (.ref n1), .unset]) rfl k) ?_
  show Go _ _ _ _ _ _ _ T575 (mkF m 20 #[.val (.ref n1), .val (.ref n3), .val (.ref n2), .val (.ref n1), .unset] [])
  refine Go.step (fun _ k => XS.aloadN X575.here hx rfl (hb hby d26_20) rfl rfl k) ?_
  refine Go.step (fun _ k => XS.aloadN X575.here hx rfl (hb hby d26_21) rfl rfl k) ?_
  obtain ⟨T576, X576, e576, st576⟩ := getF X575 hx hZ hown (host := "") (Or.inl (own_w hw 180 rfl)) Via.refl e575 c_left (g := (mkF m 22 #[.val (.ref n1), .val (.ref n3), .val (.ref n2), .val (.ref n1), .unset] [(.ref n1), (.ref n2)])) rfl rfl (hb hby d26_22)
  refine Go.step st576 ?_
  show Go _ _ _ _ _ _ _ T576 (mkF m 25 #[.val (.ref n1), .val (.ref n3), .val (.ref n2), .val (.ref n1), .unset] [.null, (.ref n2)])
  refine Go.step (fun _ k => Jvm.RoadKit.acmp (g := (mkF m 25 #[.val (.ref n1), .val (.ref n3), .val (.ref n2), .val (.ref n1), .unset] [.null, (.ref n2)])) X576 hx rfl rfl rfl (pc0 := 25) (pc' := 103) (same := false) rfl (hb hby d26_25) rfl (decide_eq_false nofun) (by decide) (by decide) k) ?_
  show Go _ _ _ _ _ _ _ T576 (mkF m 103 #[.val (.ref n1), .val (.ref n3), .val (.ref n2), .val (.ref n1), .unset] [])
  refine Go.step (fun _ k => XS.aloadN X576.here hx rfl (hb hby d26_103) rfl rfl k) ?_
  obtain ⟨T577, X577, e577, st577⟩ := getF X576 hx hZ hown (host := "") (Or.inl (own_w hw 180 rfl)) Via.refl e576 c_left (g := (mkF m 104 #[.val (.ref n1), .val (.ref n3), .val (.ref n2), .val (.ref n1), .unset] [(.ref n1)])) rfl rfl (hb hby d26_104)
  refine Go.step st577 ?_
  show Go _ _ _ _ _ _ _ T577 (mkF m 107 #[.val (.ref n1), .val (.ref n3), .val (.ref n2), .val (.ref n1), .unset] [.null])
  refine Go.step (fun _ k => XS.astore X577.here hx rfl (hb hby d26_107) rfl rfl (l' := #[.val (.ref n1), .val (.ref n3), .val (.ref n2), .val (.ref n1), .val .null]) rfl k) ?_
  show Go _ _ _ _ _ _ _ T577 (mkF m 109 #[.val (.ref n1), .val (.ref n3), .val (.ref n2), .val (.ref n1), .val .null] [])
  refine Go.step (fun _ k => XS.aload X577.here hx rfl (hb hby d26_109) rfl rfl k) ?_
  obtain ⟨_, _, ⟨T578, L578, k578, n578⟩, -, X578, ⟨Lc578, hQ578, l578, y578, z578⟩, st578⟩ := Jvm.LawKit.callS X577 hx (y := (⟨"gatherwick/maps/RedBlackTree", "isRed", "(Lgatherwick/maps/RedBlackTree$Node;)Z"⟩ : MethodName)) hown (mvT hZ (own_w hw 150 rfl)) (mvT hZ (own_w hw 151 rfl)) (mvT hZ (own_w hw 144 rfl)) (mvT hZ (own_w hw 152 rfl)) (by decide) (backOf (W := 0) (rmRn l Z a0 hw []  h0 n0 Z0 ) hZ (own_w hw 152 rfl) (own_w hw 144 rfl) (by decide) (by decide)) (g := (mkF m 111 #[.val (.ref n1), .val (.ref n3), .val (.ref n2), .val (.ref n1), .val .null] [.null])) rfl (by rw [hml]; rfl) (argsL := [.null]) (rest := []) (lenOf pd__Lgatherwick_maps_RedBlackTree_Node__Z rfl) rfl (by show 2 * 0 + _ ≤ _; exact Nat.le_of_eq rfl) (hb hby d26_111) (fun _ _ => ⟨rfl, e577, (by decide : 0 + 0 ≤ _), (by decide : 0 + 0 ≤ _)⟩)
  dsimp only [Pt.U, Pt.locs, Pt.cells, Pt.slots] at X578 l578 y578 z578 st578 hQ578
  subst l578 y578 z578
  obtain ⟨h578, e578⟩ : ∃ h, T578.heap = h := ⟨_, rfl⟩
  rw [e578] at hQ578
  obtain ⟨rfl, Nq578, hs578⟩ := hQ578
  have N578 := Fr.app N572 Nq578
  rw [hs578] at e578
  refine Go.step st578 ?_
  show Go _ _ _ _ _ _ _ T578 (mkF m 114 #[.val (.ref n1), .val (.ref n3), .val (.ref n2), .val (.ref n1), .val .null] [(.int (0 : Int32))])
  have hc114_579 : (0 : Int32) = (0 : Int32) := (by decide)
  refine Go.step (fun _ k => XS.ifYes X578.here hx rfl (pc0 := 114) (pc' := 138) rfl (hb hby d26_114) rfl ((if0 _ _).trans (teq hc114_579).1) (by decide) (by decide) k) ?_
  show Go _ _ _ _ _ _ _ T578 (mkF m 138 #[.val (.ref n1), .val (.ref n3), .val (.ref n2), .val (.ref n1), .val .null] [])
  refine Go.step (fun _ k => XS.aloadN X578.here hx rfl (hb hby d26_138) rfl rfl k) ?_
  refine Go.step (fun _ k => XS.aloadN X578.here hx rfl (hb hby d26_139) rfl rfl k) ?_
  obtain ⟨T580, X580, e580, st580⟩ := getF X578 hx hZ hown (host := "") (Or.inl (own_w hw 180 rfl)) Via.refl e578 d_left (g := (mkF m 140 #[.val (.ref n1), .val (.ref n3), .val (.ref n2), .val (.ref n1), .val .null] [(.ref n2), (.ref n3)])) rfl rfl (hb hby d26_140)
  refine Go.step st580 ?_
  show Go _ _ _ _ _ _ _ T580 (mkF m 143 #[.val (.ref n1), .val (.ref n3), .val (.ref n2), .val (.ref n1), .val .null] [.null, (.ref n3)])
  refine Go.step (fun _ k => Jvm.RoadKit.acmp (g := (mkF m 143 #[.val (.ref n1), .val (.ref n3), .val (.ref n2), .val (.ref n1), .val .null] [.null, (.ref n3)])) X580 hx rfl rfl rfl (pc0 := 143) (pc' := 159) (same := false) rfl (hb hby d26_143) rfl (decide_eq_false nofun) (by decide) (by decide) k) ?_
  show Go _ _ _ _ _ _ _ T580 (mkF m 159 #[.val (.ref n1), .val (.ref n3), .val (.ref n2), .val (.ref n1), .val .null] [])
  refine Go.step (fun _ k => XS.aloadN X580.here hx rfl (hb hby d26_159) rfl rfl k) ?_
  refine Go.step (fun _ k => XS.iconst X580.here hx rfl (hb hby d26_160) k) ?_
  obtain ⟨T581, h581, X581, e581, W581, st581⟩ := putFN X580 hx hZ hown (own_w hw 153 rfl) Via.refl e580 d_red E_n2 (Or.inl (own_w hw 133 rfl)) (own_w hw 119 rfl) (ty := .boolean) (v' := (.int (0 : Int32))) (by decide) rfl rfl (g := (mkF m 161 #[.val (.ref n1), .val (.ref n3), .val (.ref n2), .val (.ref n1), .val .null] [(.int (0 : Int32)), (.ref n2)])) rfl rfl (hb hby d26_161)
  refine Go.step st581 ?_
  have Fw581 := d_red.same W581
  have N581 := Fr.snoc X581 N578 g_n2
  have Z581 : n0 ≤ h581.size := Nat.le_trans Z0 (Keep.of_wr W581).1
  have KK581 := (Keep.refl h0 [n1, n2]).wr W581 (Or.inl (List.mem_of_getElem? (i := 1) rfl))
  show Go _ _ _ _ _ _ _ T581 (mkF m 164 #[.val (.ref n1), .val (.ref n3), .val (.ref n2), .val (.ref n1), .val .null] [])
  refine Go.step (fun _ k => XS.aloadN X581.here hx rfl (hb hby d26_164) rfl rfl k) ?_
  refine Go.step (fun _ k => XS.iconst X581.here hx rfl (hb hby d26_165) k) ?_
  have f582 := (c_red.other W581 (Or.inl ne12))
  have f583 := (E_n1.wr W581)
  obtain ⟨T584, h584, X584, e584, W584, st584⟩ := putFN X581 hx hZ hown (own_w hw 153 rfl) Via.refl e581 f582 f583 (Or.inl (own_w hw 133 rfl)) (own_w hw 119 rfl) (ty := .boolean) (v' := (.int (1 : Int32))) (by decide) rfl rfl (g := (mkF m 166 #[.val (.ref n1), .val (.ref n3), .val (.ref n2), .val (.ref n1), .val .null] [(.int (1 : Int32)), (.ref n1)])) rfl rfl (hb hby d26_166)
  refine Go.step st584 ?_
  have Fw584 := f582.same W584
  have N584 := Fr.snoc X584 N581 g_n1
  have Z584 : n0 ≤ h584.size := Nat.le_trans Z581 (Keep.of_wr W584).1
  have KK584 := KK581.wr W584 (Or.inl (List.mem_of_getElem? (i := 0) rfl))
  show Go _ _ _ _ _ _ _ T584 (mkF m 169 #[.val (.ref n1), .val (.ref n3), .val (.ref n2), .val (.ref n1), .val .null] [])
  refine Go.step (fun _ k => XS.aloadN X584.here hx rfl (hb hby d26_169) rfl rfl k) ?_
  refine Go.step (fun _ k => XS.aloadN X584.here hx rfl (hb hby d26_170) rfl rfl k) ?_
  have f586 := (f583.wr W584)
  have f587 := ((E_n2.wr W581).wr W584)
  have f588 := ((c_right.other W581 (Or.inl ne12)).other W584 (Or.inr (slot_ne (a0 := a0) (C := "gatherwick/maps/RedBlackTree$Node") (Or.inl (own_w hw 176 rfl)) (Or.inl (own_w hw 133 rfl)) (by decide) (t := (.object "gatherwick/maps/RedBlackTree$Node")) (t' := .boolean) (by decide) (by decide))))
  have f589 := ((c_parent.other W581 (Or.inl ne12)).other W584 (Or.inr (slot_ne (a0 := a0) (C := "gatherwick/maps/RedBlackTree$Node") (Or.inl (own_w hw 139 rfl)) (Or.inl (own_w hw 133 rfl)) (by decide) (t := (.object "gatherwick/maps/RedBlackTree$Node")) (t' := .boolean) (by decide) (by decide))))
  have f590 := ((d_right.other W581 (Or.inr (slot_ne (a0 := a0) (C := "gatherwick/maps/RedBlackTree$Node") (Or.inl (own_w hw 176 rfl)) (Or.inl (own_w hw 133 rfl)) (by decide) (t := (.object "gatherwick/maps/RedBlackTree$Node")) (t' := .boolean) (by decide) (by decide)))).other W584 (Or.inl (Ne.symm ne12)))
  have f591 := ((d_left.other W581 (Or.inr (slot_ne (a0 := a0) (C := "gatherwick/maps/RedBlackTree$Node") (Or.inl (own_w hw 179 rfl)) (Or.inl (own_w hw 133 rfl)) (by decide) (t := (.object "gatherwick/maps/RedBlackTree$Node")) (t' := .boolean) (by decide) (by decide)))).other W584 (Or.inl (Ne.symm ne12)))
  have f592 := ((d_parent.other W581 (Or.inr (slot_ne (a0 := a0) (C := "gatherwick/maps/RedBlackTree$Node") (Or.inl (own_w hw 139 rfl)) (Or.inl (own_w hw 133 rfl)) (by decide) (t := (.object "gatherwick/maps/RedBlackTree$Node")) (t' := .boolean) (by decide) (by decide)))).other W584 (Or.inl (Ne.symm ne12)))
  have f593 := (Fw581.other W584 (Or.inl (Ne.symm ne12)))
  obtain ⟨_, _, ⟨T585, L585, k585, n585⟩, -, X585, ⟨Lc585, hQ585, l585, y585, z585⟩, st585⟩ := Jvm.LawKit.callS X584 hx (y := (⟨"gatherwick/maps/RedBlackTree", "rotateLeft", "(Lgatherwick/maps/RedBlackTree$Node;Lgatherwick/maps/RedBlackTree$Node;)Lgatherwick/maps/RedBlackTree$Node;"⟩ : MethodName)) hown (mvT hZ (own_w hw 187 rfl)) (mvT hZ (own_w hw 188 rfl)) (mvT hZ (own_w hw 144 rfl)) (mvT hZ (own_w hw 189 rfl)) (by decide) (backOf (W := 0) (rmTr l Z a0 hw [] n1 n1 n2 (.ref n3) (.ref n1) (0 : Int32) h584 n0 Z584 f586 g_n1 f587 g_n2 ne12 f588 f589 f590 f591 f592 f593) hZ (own_w hw 189 rfl) (own_w hw 144 rfl) (by decide) (by decide)) (g := (mkF m 171 #[.val (.ref n1), .val (.ref n3), .val (.ref n2), .val (.ref n1), .val .null] [(.ref n1), (.ref n1)])) rfl (by rw [hml]; rfl) (argsL := [(.ref n1), (.ref n1)]) (rest := []) (lenOf pd__Lgatherwick_maps_RedBlackTree_Node_Lgatherwick_maps_RedBlackTree_Node__Lgatherwick_maps_RedBlackTree_Node_ rfl) rfl (by show 2 * 0 + _ ≤ _; exact Nat.le_of_eq rfl) (hb hby d26_171) (fun _ _ => ⟨rfl, e584, (by decide : 0 + 0 ≤ _), (by decide : 0 + 0 ≤ _)⟩)
  dsimp only [Pt.U, Pt.locs, Pt.cells, Pt.slots] at X585 l585 y585 z585 st585 hQ585
  subst l585 y585 z585
  obtain ⟨h585, e585⟩ : ∃ h, T585.heap = h := ⟨_, rfl⟩
  rw [e585] at hQ585
  obtain ⟨rfl, Nq585, Kq585, o_right_585, o_parent_585, y_right_585, y_left_585, y_parent_585, y_red_585⟩ := hQ585
  have N585 := Fr.app N584 Nq585
  have Z585 : n0 ≤ h585.size := Nat.le_trans Z584 Kq585.1
  have KK585 := KK584.trans Kq585 (allS (Or.inl (List.mem_of_getElem? (i := 0) rfl)) (allS (Or.inl (List.mem_of_getElem? (i := 1) rfl)) all0))
  have y_red_585 : Fld Z h585 n2 "gatherwick/maps/RedBlackTree$Node" "red" "Z" (.int (0 : Int32)) := y_red_585
  refine Go.step st585 ?_
  show Go _ _ _ _ _ _ _ T585 (mkF m 174 #[.val (.ref n1), .val (.ref n3), .val (.ref n2), .val (.ref n1), .val .null] [(.ref n2)])
  refine Go.step (fun _ k => XS.astoreN X585.here hx rfl (hb hby d26_174) rfl rfl (l' := #[.val (.ref n2), .val (.ref n3), .val (.ref n2), .val (.ref n1), .val .null]) rfl k) ?_
  show Go _ _ _ _ _ _ _ T585 (mkF m 175 #[.val (.ref n2), .val (.ref n3), .val (.ref n2), .val (.ref n1), .val .null] [])
  refine Go.step (fun _ k => XS.goto X585.here hx rfl (pc0 := 175) (pc' := 0) rfl (hb hby d26_175) (by decide) (by decide) k) ?_
  show Go _ _ _ _ _ _ _ T585 (mkF m 0 #[.val (.ref n2), .val (.ref n3), .val (.ref n2), .val (.ref n1), .val .null] [])
  refine Go.step (fun _ k => XS.aloadN X585.here hx rfl (hb hby d26_0) rfl rfl k) ?_
  have f594 := (((a_parent.other W581 (Or.inl (Ne.symm ne23))).other W584 (Or.inl (Ne.symm ne13))).keep Kq585 (ninS (Ne.symm ne13) (ninS (Ne.symm ne23) nin0)))
  obtain ⟨T595, X595, e595, st595⟩ := getF X585 hx hZ hown (host := "") (Or.inl (own_w hw 146 rfl)) Via.refl e585 f594 (g := (mkF m 1 #[.val (.ref n2), .val (.ref n3), .val (.ref n2), .val (.ref n1), .val .null] [(.ref n3)])) rfl rfl (hb hby d26_1)
  refine Go.step st595 ?_
  show Go _ _ _ _ _ _ _ T595 (mkF m 4 #[.val (.ref n2), .val (.ref n3), .val (.ref n2), .val (.ref n1), .val .null] [(.ref n2)])
  obtain ⟨_, _, ⟨T596, L596, k596, n596⟩, -, X596, ⟨Lc596, hQ596, l596, y596, z596⟩, st596⟩ := Jvm.LawKit.callS X595 hx (y := (⟨"gatherwick/maps/RedBlackTree", "isRed", "(Lgatherwick/maps/RedBlackTree$Node;)Z"⟩ : MethodName)) hown (mvT hZ (own_w hw 150 rfl)) (mvT hZ (own_w hw 151 rfl)) (mvT hZ (own_w hw 144 rfl)) (mvT hZ (own_w hw 152 rfl)) (by decide) (backOf (W := 0) (rmRz l Z a0 hw [] n2 h585 n0 Z585 y_red_585) hZ (own_w hw 152 rfl) (own_w hw 144 rfl) (by decide) (by decide)) (g := (mkF m 4 #[.val (.ref n2), .val (.ref n3), .val (.ref n2), .val (.ref n1), .val .null] [(.ref n2)])) rfl (by rw [hml]; rfl) (argsL := [(.ref n2)]) (rest := []) (lenOf pd__Lgatherwick_maps_RedBlackTree_Node__Z rfl) rfl (by show 2 * 0 + _ ≤ _; exact Nat.le_of_eq rfl) (hb hby d26_4) (fun _ _ => ⟨rfl, e595, (by decide : 0 + 0 ≤ _), (by decide : 0 + 0 ≤ _)⟩)
  dsimp only [Pt.U, Pt.locs, Pt.cells, Pt.slots] at X596 l596 y596 z596 st596 hQ596
  subst l596 y596 z596
  obtain ⟨h596, e596⟩ : ∃ h, T596.heap = h := ⟨_, rfl⟩
  rw [e596] at hQ596
  obtain ⟨rfl, Nq596, hs596⟩ := hQ596
  have N596 := Fr.app N585 Nq596
  rw [hs596] at e596
  refine Go.step st596 ?_
  show Go _ _ _ _ _ _ _ T596 (mkF m 7 #[.val (.ref n2), .val (.ref n3), .val (.ref n2), .val (.ref n1), .val .null] [(.int (0 : Int32))])
  have hc7_597 : (0 : Int32) = (0 : Int32) := (by decide)
  refine Go.step (fun _ k => XS.ifYes X596.here hx rfl (pc0 := 7) (pc' := 178) rfl (hb hby d26_7) rfl ((if0 _ _).trans (teq hc7_597).1) (by decide) (by decide) k) ?_
  show Go _ _ _ _ _ _ _ T596 (mkF m 178 #[.val (.ref n2), .val (.ref n3), .val (.ref n2), .val (.ref n1), .val .null] [])
  refine Go.step (fun _ k => XS.aloadN X596.here hx rfl (hb hby d26_178) rfl rfl k) ?_
  refine Go.step (fun _ k => XS.iconst X596.here hx rfl (hb hby d26_179) k) ?_
  have f598 := (f587.keep Kq585)
  obtain ⟨T599, h599, X599, e599, W599, st599⟩ := putFN X596 hx hZ hown (own_w hw 153 rfl) Via.refl e596 y_red_585 f598 (Or.inl (own_w hw 133 rfl)) (own_w hw 119 rfl) (ty := .boolean) (v' := (.int (0 : Int32))) (by decide) rfl rfl (g := (mkF m 180 #[.val (.ref n2), .val (.ref n3), .val (.ref n2), .val (.ref n1), .val .null] [(.int (0 : Int32)), (.ref n2)])) rfl rfl (hb hby d26_180)
  refine Go.step st599 ?_
  have Fw599 := y_red_585.same W599
  have N599 := Fr.snoc X599 N596 g_n2
  have Z599 : n0 ≤ h599.size := Nat.le_trans Z585 (Keep.of_wr W599).1
  have KK599 := KK585.wr W599 (Or.inl (List.mem_of_getElem? (i := 1) rfl))
  show Go _ _ _ _ _ _ _ T599 (mkF m 183 #[.val (.ref n2), .val (.ref n3), .val (.ref n2), .val (.ref n1), .val .null] [])
  refine Go.step (fun _ k => XS.aloadN X599.here hx rfl (hb hby d26_183) rfl rfl k) ?_
  exact Go.retA X599 hx hret hlk rfl rfl (hb hby d26_184) e599 (by decide) (by decide) ⟨rfl, N599, KK599⟩
def own_W (Z : State) (h : Heap) (d : Bool) (n1 n2 : Addr) : Prop := Fld Z h n1 "gatherwick/maps/RedBlackTree$Node" "left" "Lgatherwick/maps/RedBlackTree$Node;" (bif d then .ref n2 else .null) ∧ Fld Z h n1 "gatherwick/maps/RedBlackTree$Node" "right" "Lgatherwick/maps/RedBlackTree$Node;" (bif d then .null else .ref n2) ∧ Fld Z h n1 "gatherwick/maps/RedBlackTree$Node" "parent" "Lgatherwick/maps/RedBlackTree$Node;" .null ∧ Fld Z h n1 "gatherwick/maps/RedBlackTree$Node" "red" "Z" (.int (0 : Int32)) ∧ Fld Z h n2 "gatherwick/maps/RedBlackTree$Node" "left" "Lgatherwick/maps/RedBlackTree$Node;" .null ∧ Fld Z h n2 "gatherwick/maps/RedBlackTree$Node" "right" "Lgatherwick/maps/RedBlackTree$Node;" .null ∧ Fld Z h n2 "gatherwick/maps/RedBlackTree$Node" "parent" "Lgatherwick/maps/RedBlackTree$Node;" (.ref n1) ∧ Fld Z h n2 "gatherwick/maps/RedBlackTree$Node" "red" "Z" (.int (1 : Int32))
theorem own_W.ext {Z : State} {h h' : Heap} {d : Bool} {n1 n2 : Addr} (F : own_W Z h d n1 n2) (E : Ext h h') : own_W Z h' d n1 n2 := by
  obtain ⟨q1, q2, q3, q4, q5, q6, q7, q8⟩ := F; exact ⟨q1.ext E, q2.ext E, q3.ext E, q4.ext E, q5.ext E, q6.ext E, q7.ext E, q8.ext E⟩
theorem own_W.keep {Z : State} {h h' : Heap} {d : Bool} {n1 n2 : Addr} {ws : List Addr} (F : own_W Z h d n1 n2) (K : Keep h h' ws) (k1 : n1 ∉ ws) (k2 : n2 ∉ ws) : own_W Z h' d n1 n2 := by
  obtain ⟨q1, q2, q3, q4, q5, q6, q7, q8⟩ := F; exact ⟨q1.keep K k1, q2.keep K k1, q3.keep K k1, q4.keep K k1, q5.keep K k2, q6.keep K k2, q7.keep K k2, q8.keep K k2⟩
theorem ef_rmKW (m : MethodId) (n1 : Addr) (an : Addr) (fl : Int32) : entryFrame m #[(.ref n1), (.ref an), (.int fl)] 4 = mkF m 0 #[.val (.ref n1), .val (.ref an), .val (.int fl), .unset] [] := by first | (simp [entryFrame, mkF, argsToLocals, Value.category]; done) | rfl
def Q_rmKW (Z : State) (n1 : Addr) (an : Addr) (fl : Int32) (n2 : Addr) (x1 : Addr) (d : Bool) (xk : Addr) (xv : Addr) (h0 : Heap) (n0 : Nat) (v : Option Value) (h : Heap) (L : List Loc) : Prop := ∃ nr : Addr, (v = some (.ref nr)) ∧ (Fr n0 L) ∧ (Keep h0 h [n1, n2, an])
theorem rmKW (l : Launch) (Z : State) (a0 : Array Value) (hw : ∀ d ∈ tables_1, d.before a0 Z = true) (ws : List Jvm.Cond) (n1 : Addr) (an : Addr) (fl : Int32) (n2 : Addr) (x1 : Addr) (d : Bool) (xk : Addr) (xv : Addr) (h0 : Heap) (n0 : Nat) (Z0 : n0 ≤ h0.size) (E_an : Exa Z h0 an "gatherwick/maps/RedBlackTree$Node") (g_an : n0 ≤ an) (ne_an0 : an ≠ n1) (ne_an1 : an ≠ n2) (a_key : Fld Z h0 an "gatherwick/maps/RedBlackTree$Node" "key" "Ljava/lang/Object;" (.ref xk)) (a_value : Fld Z h0 an "gatherwick/maps/RedBlackTree$Node" "value" "Ljava/lang/Object;" (.ref xv)) (a_left : Fld Z h0 an "gatherwick/maps/RedBlackTree$Node" "left" "Lgatherwick/maps/RedBlackTree$Node;" .null) (a_right : Fld Z h0 an "gatherwick/maps/RedBlackTree$Node" "right" "Lgatherwick/maps/RedBlackTree$Node;" .null) (a_parent : Fld Z h0 an "gatherwick/maps/RedBlackTree$Node" "parent" "Lgatherwick/maps/RedBlackTree$Node;" (.ref n2)) (a_red : Fld Z h0 an "gatherwick/maps/RedBlackTree$Node" "red" "Z" (.int (1 : Int32))) (E_n1 : Exa Z h0 n1 "gatherwick/maps/RedBlackTree$Node") (g_n1 : n0 ≤ n1) (E_n2 : Exa Z h0 n2 "gatherwick/maps/RedBlackTree$Node") (g_n2 : n0 ≤ n2) (ne12 : n1 ≠ n2) (W : own_W Z h0 d n1 n2) (hfl : fl = 0 ∨ fl = 1) :
    MetFree l (⟨"gatherwick/maps/RedBlackTree", "link", "(Lgatherwick/maps/RedBlackTree$Node;Lgatherwick/maps/RedBlackTree$Node;Z)Lgatherwick/maps/RedBlackTree$Node;"⟩ : MethodName) (head1 (Jvm.Cond.code (⟨"gatherwick/maps/RedBlackTree", "link", "(Lgatherwick/maps/RedBlackTree$Node;Lgatherwick/maps/RedBlackTree$Node;Z)Lgatherwick/maps/RedBlackTree$Node;"⟩ : MethodName) prog_57_method_2_code 4 (some (.object "gatherwick/maps/RedBlackTree$Node")) :: ws) ({ frames := 3, cells := 0, slots := 0, locals := 45 } : Room)) (fun aA U => aA = #[(.ref n1), (.ref an), (.int fl)] ∧ Z.Warmed39 U.vm ∧ U.heap = h0) (fun _ _ _ _ _ => True) (fun _ U o U' => ∃ v L, o = .returned v ∧ Q_rmKW Z n1 an fl n2 x1 d xk xv h0 n0 v U'.heap L ∧ FrameEnd U o U' L ({ frames := 3, cells := 0, slots := 0, locals := 45 } : Room).cells ({ frames := 3, cells := 0, slots := 0, locals := 45 } : Room).slots) := by
  refine MetFree.of_bodySF (plainFor_of_name pn_gatherwick_maps_RedBlackTree) hisR ?_
  intro p e s m args below meth c s₁ Bd hml0 hP hK
  obtain ⟨rfl, hZ, hh⟩ := hP
  have hx := Bd.exec
  have hby := Bd.bytes
  have hml : c.maxLocals = 4 := hml0
  have hown : s.vm.findClass "gatherwick/maps/RedBlackTree" = some m.cls := findClass_of_methodNamed Bd.named
  have hnm := (name_of_methodNamed Bd.named Bd.method).1
  have hret := Bd.returns
  have hlk : meth.locks = false := BodyLoose.notSynchronized Bd
  have X0 : Stand p l e ({ frames := 3, cells := 0, slots := 0, locals := 45 } : Room) s m #[(.ref n1), (.ref an), (.int fl)] below meth c s₁ [] 0 0 := Stand.of_body Bd
  have e0 : s₁.heap = h0 := by rw [← hh, Bd.state]; rfl
  have N0 := Fr.nil n0
  suffices hgo : Go p e below s ({ frames := 3, cells := 0, slots := 0, locals := 45 } : Room).cells ({ frames := 3, cells := 0, slots := 0, locals := 45 } : Room).slots (Q_rmKW Z n1 an fl n2 x1 d xk xv h0 n0) s₁ (mkF m 0 #[.val (.ref n1), .val (.ref an), .val (.int fl), .unset] []) from hgo.enter (ef_rmKW m n1 an fl)
  rcases hfl with rfl | rfl <;> cases d
  · obtain ⟨W1, W2, W3, W4, W5, W6, W7, W8⟩ := W
    have c_right : Fld Z h0 n1 "gatherwick/maps/RedBlackTree$Node" "right" "Lgatherwick/maps/RedBlackTree$Node;" (.ref n2) := W2
    have c_left : Fld Z h0 n1 "gatherwick/maps/RedBlackTree$Node" "left" "Lgatherwick/maps/RedBlackTree$Node;" .null := W1
    have c_parent : Fld Z h0 n1 "gatherwick/maps/RedBlackTree$Node" "parent" "Lgatherwick/maps/RedBlackTree$Node;" .null := W3
    have c_red : Fld Z h0 n1 "gatherwick/maps/RedBlackTree$Node" "red" "Z" (.int (0 : Int32)) := W4
    have d_left : Fld Z h0 n2 "gatherwick/maps/RedBlackTree$Node" "left" "Lgatherwick/maps/RedBlackTree$Node;" .null := W5
    have d_right : Fld Z h0 n2 "gatherwick/maps/RedBlackTree$Node" "right" "Lgatherwick/maps/RedBlackTree$Node;" .null := W6
    have d_parent : Fld Z h0 n2 "gatherwick/maps/RedBlackTree$Node" "parent" "Lgatherwick/maps/RedBlackTree$Node;" (.ref n1) := W7
    have d_red : Fld Z h0 n2 "gatherwick/maps/RedBlackTree$Node" "red" "Z" (.int (1 : Int32)) := W8
    show Go _ _ _ _ _ _ _ s₁ (mkF m 0 #[.val (.ref n1), .val (.ref an), .val (.int (0 : Int32)), .unset] [])
    refine Go.step (fun _ k => XS.aloadN X0.here hx rfl (hb hby d25_0) rfl rfl k) ?_
    obtain ⟨T600, X600, e600, st600⟩ := getF X0 hx hZ hown (host := "") (Or.inl (own_w hw 146 rfl)) Via.refl e0 a_parent (g := (mkF m 1 #[.val (.ref n1), .val (.ref an), .val (.int (0 : Int32)), .unset] [(.ref an)])) rfl rfl (hb hby d25_1)
    refine Go.step st600 ?_
    show Go _ _ _ _ _ _ _ T600 (mkF m 4 #[.val (.ref n1), .val (.ref an), .val (.int (0 : Int32)), .unset] [(.ref n2)])
    refine Go.step (fun _ k => XS.astoreN X600.here hx rfl (hb hby d25_4) rfl rfl (l' := #[.val (.ref n1), .val (.ref an), .val (.int (0 : Int32)), .val (.ref n2)]) rfl k) ?_
    show Go _ _ _ _ _ _ _ T600 (mkF m 5 #[.val (.ref n1), .val (.ref an), .val (.int (0 : Int32)), .val (.ref n2)] [])
    refine Go.step (fun _ k => XS.aloadN X600.here hx rfl (hb hby d25_5) rfl rfl k) ?_
    refine Go.step (fun _ k => XS.ifnonnullYes X600.here hx rfl (pc0 := 6) (pc' := 14) rfl (hb hby d25_6) rfl (by decide) (by decide) k) ?_
    show Go _ _ _ _ _ _ _ T600 (mkF m 14 #[.val (.ref n1), .val (.ref an), .val (.int (0 : Int32)), .val (.ref n2)] [])
    refine Go.step (fun _ k => XS.iloadN X600.here hx rfl (hb hby d25_14) rfl k) ?_
    have hc15_601 : (0 : Int32) = (0 : Int32) := (by decide)
    refine Go.step (fun _ k => XS.ifYes X600.here hx rfl (pc0 := 15) (pc' := 26) rfl (hb hby d25_15) rfl ((if0 _ _).trans (teq hc15_601).1) (by decide) (by decide) k) ?_
    show Go _ _ _ _ _ _ _ T600 (mkF m 26 #[.val (.ref n1), .val (.ref an), .val (.int (0 : Int32)), .val (.ref n2)] [])
    refine Go.step (fun _ k => XS.aloadN X600.here hx rfl (hb hby d25_26) rfl rfl k) ?_
    refine Go.step (fun _ k => XS.aloadN X600.here hx rfl (hb hby d25_27) rfl rfl k) ?_
    obtain ⟨T602, h602, X602, e602, W602, st602⟩ := putF X600 hx hZ hown (host := "") (Or.inl (own_w hw 177 rfl)) Via.refl e600 d_right E_n2 (Or.inl (own_w hw 176 rfl)) (own_w hw 119 rfl) (ty := (.object "gatherwick/maps/RedBlackTree$Node")) (by decide) rfl rfl (g := (mkF m 28 #[.val (.ref n1), .val (.ref an), .val (.int (0 : Int32)), .val (.ref n2)] [(.ref an), (.ref n2)])) rfl rfl (hb hby d25_28)
    refine Go.step st602 ?_
    have Fw602 := d_right.same W602
    have N602 := Fr.snoc X602 N0 g_n2
    have Z602 : n0 ≤ h602.size := Nat.le_trans Z0 (Keep.of_wr W602).1
    have KK602 := (Keep.refl h0 [n1, n2, an]).wr W602 (Or.inl (List.mem_of_getElem? (i := 1) rfl))
    show Go _ _ _ _ _ _ _ T602 (mkF m 31 #[.val (.ref n1), .val (.ref an), .val (.int (0 : Int32)), .val (.ref n2)] [])
    refine Go.step (fun _ k => XS.aloadN X602.here hx rfl (hb hby d25_31) rfl rfl k) ?_
    refine Go.step (fun _ k => XS.aloadN X602.here hx rfl (hb hby d25_32) rfl rfl k) ?_
    have f604 := (E_n1.wr W602)
    have f605 := (E_n2.wr W602)
    have f606 := (E_an.wr W602)
    have f607 := (c_right.other W602 (Or.inl ne12))
    have f608 := (c_left.other W602 (Or.inl ne12))
    have f609 := (c_parent.other W602 (Or.inl ne12))
    have f610 := (c_red.other W602 (Or.inl ne12))
    have f611 := (d_left.other W602 (Or.inr (slot_ne (a0 := a0) (C := "gatherwick/maps/RedBlackTree$Node") (Or.inl (own_w hw 179 rfl)) (Or.inl (own_w hw 176 rfl)) (by decide) (t := (.object "gatherwick/maps/RedBlackTree$Node")) (t' := (.object "gatherwick/maps/RedBlackTree$Node")) (by decide) (by decide))))
    have f612 := (d_parent.other W602 (Or.inr (slot_ne (a0 := a0) (C := "gatherwick/maps/RedBlackTree$Node") (Or.inl (own_w hw 139 rfl)) (Or.inl (own_w hw 176 rfl)) (by decide) (t := (.object "gatherwick/maps/RedBlackTree$Node")) (t' := (.object "gatherwick/maps/RedBlackTree$Node")) (by decide) (by decide))))
    have f613 := (d_red.other W602 (Or.inr (slot_ne (a0 := a0) (C := "gatherwick/maps/RedBlackTree$Node") (Or.inl (own_w hw 133 rfl)) (Or.inl (own_w hw 176 rfl)) (by decide) (t := .boolean) (t' := (.object "gatherwick/maps/RedBlackTree$Node")) (by decide) (by decide))))
    have f614 := (a_left.other W602 (Or.inl ne_an1))
    have f615 := (a_right.other W602 (Or.inl ne_an1))
    have f616 := (a_parent.other W602 (Or.inl ne_an1))
    have f617 := (a_red.other W602 (Or.inl ne_an1))
    obtain ⟨_, _, ⟨T603, L603, k603, n603⟩, -, X603, ⟨Lc603, hQ603, l603, y603, z603⟩, st603⟩ := Jvm.LawKit.callS X602 hx (y := (⟨"gatherwick/maps/RedBlackTree", "rebalanceAfterLink", "(Lgatherwick/maps/RedBlackTree$Node;Lgatherwick/maps/RedBlackTree$Node;)Lgatherwick/maps/RedBlackTree$Node;"⟩ : MethodName)) hown (mvT hZ (own_w hw 147 rfl)) (mvT hZ (own_w hw 148 rfl)) (mvT hZ (own_w hw 144 rfl)) (mvT hZ (own_w hw 149 rfl)) (by decide) (backOf (W := 0) (rmBWrr l Z a0 hw [] n1 an n2 h602 n0 Z602 f604 g_n1 f605 g_n2 f606 g_an ne12 (Ne.symm ne_an0) (Ne.symm ne_an1) f607 f608 f609 f610 Fw602 f611 f612 f613 f614 f615 f616 f617) hZ (own_w hw 149 rfl) (own_w hw 144 rfl) (by decide) (by decide)) (g := (mkF m 33 #[.val (.ref n1), .val (.ref an), .val (.int (0 : Int32)), .val (.ref n2)] [(.ref an), (.ref n1)])) rfl (by rw [hml]; rfl) (argsL := [(.ref n1), (.ref an)]) (rest := []) (lenOf pd__Lgatherwick_maps_RedBlackTree_Node_Lgatherwick_maps_RedBlackTree_Node__Lgatherwick_maps_RedBlackTree_Node_ rfl) rfl (by show 2 * 0 + _ ≤ _; exact Nat.le_of_eq rfl) (hb hby d25_33) (fun _ _ => ⟨rfl, e602, (by decide : 0 + 0 ≤ _), (by decide : 0 + 0 ≤ _)⟩)
    dsimp only [Pt.U, Pt.locs, Pt.cells, Pt.slots] at X603 l603 y603 z603 st603 hQ603
    subst l603 y603 z603
    obtain ⟨h603, e603⟩ : ∃ h, T603.heap = h := ⟨_, rfl⟩
    rw [e603] at hQ603
    obtain ⟨rfl, Nq603, Kq603⟩ := hQ603
    have N603 := Fr.app N602 Nq603
    have Z603 : n0 ≤ h603.size := Nat.le_trans Z602 Kq603.1
    have KK603 := KK602.trans Kq603 (allS (Or.inl (List.mem_of_getElem? (i := 0) rfl)) (allS (Or.inl (List.mem_of_getElem? (i := 1) rfl)) all0))
    refine Go.step st603 ?_
    show Go _ _ _ _ _ _ _ T603 (mkF m 36 #[.val (.ref n1), .val (.ref an), .val (.int (0 : Int32)), .val (.ref n2)] [(.ref n2)])
    exact Go.retA X603 hx hret hlk rfl rfl (hb hby d25_36) e603 (by decide) (by decide) ⟨n2, rfl, N603, KK603⟩
  · obtain ⟨W1, W2, W3, W4, W5, W6, W7, W8⟩ := W
    have c_left : Fld Z h0 n1 "gatherwick/maps/RedBlackTree$Node" "left" "Lgatherwick/maps/RedBlackTree$Node;" (.ref n2) := W1
    have c_right : Fld Z h0 n1 "gatherwick/maps/RedBlackTree$Node" "right" "Lgatherwick/maps/RedBlackTree$Node;" .null := W2
    have c_parent : Fld Z h0 n1 "gatherwick/maps/RedBlackTree$Node" "parent" "Lgatherwick/maps/RedBlackTree$Node;" .null := W3
    have c_red : Fld Z h0 n1 "gatherwick/maps/RedBlackTree$Node" "red" "Z" (.int (0 : Int32)) := W4
    have d_left : Fld Z h0 n2 "gatherwick/maps/RedBlackTree$Node" "left" "Lgatherwick/maps/RedBlackTree$Node;" .null := W5
    have d_right : Fld Z h0 n2 "gatherwick/maps/RedBlackTree$Node" "right" "Lgatherwick/maps/RedBlackTree$Node;" .null := W6
    have d_parent : Fld Z h0 n2 "gatherwick/maps/RedBlackTree$Node" "parent" "Lgatherwick/maps/RedBlackTree$Node;" (.ref n1) := W7
    have d_red : Fld Z h0 n2 "gatherwick/maps/RedBlackTree$Node" "red" "Z" (.int (1 : Int32)) := W8
    show Go _ _ _ _ _ _ _ s₁ (mkF m 0 #[.val (.ref n1), .val (.ref an), .val (.int (0 : Int32)), .unset] [])
    refine Go.step (fun _ k => XS.aloadN X0.here hx rfl (hb hby d25_0) rfl rfl k) ?_
    obtain ⟨T618, X618, e618, st618⟩ := getF X0 hx hZ hown (host := "") (Or.inl (own_w hw 146 rfl)) Via.refl e0 a_parent (g := (mkF m 1 #[.val (.ref n1), .val (.ref an), .val (.int (0 : Int32)), .unset] [(.ref an)])) rfl rfl (hb hby d25_1)
    refine Go.step st618 ?_
    show Go _ _ _ _ _ _ _ T618 (mkF m 4 #[.val (.ref n1), .val (.ref an), .val (.int (0 : Int32)), .unset] [(.ref n2)])
    refine Go.step (fun _ k => XS.astoreN X618.here hx rfl (hb hby d25_4) rfl rfl (l' := #[.val (.ref n1), .val (.ref an), .val (.int (0 : Int32)), .val (.ref n2)]) rfl k) ?_
    show Go _ _ _ _ _ _ _ T618 (mkF m 5 #[.val (.ref n1), .val (.ref an), .val (.int (0 : Int32)), .val (.ref n2)] [])
    refine Go.step (fun _ k => XS.aloadN X618.here hx rfl (hb hby d25_5) rfl rfl k) ?_
    refine Go.step (fun _ k => XS.ifnonnullYes X618.here hx rfl (pc0 := 6) (pc' := 14) rfl (hb hby d25_6) rfl (by decide) (by decide) k) ?_
    show Go _ _ _ _ _ _ _ T618 (mkF m 14 #[.val (.ref n1), .val (.ref an), .val (.int (0 : Int32)), .val (.ref n2)] [])
    refine Go.step (fun _ k => XS.iloadN X618.here hx rfl (hb hby d25_14) rfl k) ?_
    have hc15_619 : (0 : Int32) = (0 : Int32) := (by decide)
    refine Go.step (fun _ k => XS.ifYes X618.here hx rfl (pc0 := 15) (pc' := 26) rfl (hb hby d25_15) rfl ((if0 _ _).trans (teq hc15_619).1) (by decide) (by decide) k) ?_
    show Go _ _ _ _ _ _ _ T618 (mkF m 26 #[.val (.ref n1), .val (.ref an), .val (.int (0 : Int32)), .val (.ref n2)] [])
    refine Go.step (fun _ k => XS.aloadN X618.here hx rfl (hb hby d25_26) rfl rfl k) ?_
    refine Go.step (fun _ k => XS.aloadN X618.here hx rfl (hb hby d25_27) rfl rfl k) ?_
    obtain ⟨T620, h620, X620, e620, W620, st620⟩ := putF X618 hx hZ hown (host := "") (Or.inl (own_w hw 177 rfl)) Via.refl e618 d_right E_n2 (Or.inl (own_w hw 176 rfl)) (own_w hw 119 rfl) (ty := (.object "gatherwick/maps/RedBlackTree$Node")) (by decide) rfl rfl (g := (mkF m 28 #[.val (.ref n1), .val (.ref an), .val (.int (0 : Int32)), .val (.ref n2)] [(.ref an), (.ref n2)])) rfl rfl (hb hby d25_28)
    refine Go.step st620 ?_
    have Fw620 := d_right.same W620
    have N620 := Fr.snoc X620 N0 g_n2
    have Z620 : n0 ≤ h620.size := Nat.le_trans Z0 (Keep.of_wr W620).1
    have KK620 := (Keep.refl h0 [n1, n2, an]).wr W620 (Or.inl (List.mem_of_getElem? (i := 1) rfl))
    show Go _ _ _ _ _ _ _ T620 (mkF m 31 #[.val (.ref n1), .val (.ref an), .val (.int (0 : Int32)), .val (.ref n2)] [])
    refine Go.step (fun _ k => XS.aloadN X620.here hx rfl (hb hby d25_31) rfl rfl k) ?_
    refine Go.step (fun _ k => XS.aloadN X620.here hx rfl (hb hby d25_32) rfl rfl k) ?_
    have f622 := (E_n1.wr W620)
    have f623 := (E_n2.wr W620)
    have f624 := (E_an.wr W620)
    have f625 := (c_left.other W620 (Or.inl ne12))
    have f626 := (c_right.other W620 (Or.inl ne12))
    have f627 := (c_parent.other W620 (Or.inl ne12))
    have f628 := (c_red.other W620 (Or.inl ne12))
    have f629 := (d_left.other W620 (Or.inr (slot_ne (a0 := a0) (C := "gatherwick/maps/RedBlackTree$Node") (Or.inl (own_w hw 179 rfl)) (Or.inl (own_w hw 176 rfl)) (by decide) (t := (.object "gatherwick/maps/RedBlackTree$Node")) (t' := (.object "gatherwick/maps/RedBlackTree$Node")) (by decide) (by decide))))
    have f630 := (d_parent.other W620 (Or.inr (slot_ne (a0 := a0) (C := "gatherwick/maps/RedBlackTree$Node") (Or.inl (own_w hw 139 rfl)) (Or.inl (own_w hw 176 rfl)) (by decide) (t := (.object "gatherwick/maps/RedBlackTree$Node")) (t' := (.object "gatherwick/maps/RedBlackTree$Node")) (by decide) (by decide))))
    have f631 := (d_red.other W620 (Or.inr (slot_ne (a0 := a0) (C := "gatherwick/maps/RedBlackTree$Node") (Or.inl (own_w hw 133 rfl)) (Or.inl (own_w hw 176 rfl)) (by decide) (t := .boolean) (t' := (.object "gatherwick/maps/RedBlackTree$Node")) (by decide) (by decide))))
    have f632 := (a_left.other W620 (Or.inl ne_an1))
    have f633 := (a_right.other W620 (Or.inl ne_an1))
    have f634 := (a_parent.other W620 (Or.inl ne_an1))
    have f635 := (a_red.other W620 (Or.inl ne_an1))
    obtain ⟨_, _, ⟨T621, L621, k621, n621⟩, -, X621, ⟨Lc621, hQ621, l621, y621, z621⟩, st621⟩ := Jvm.LawKit.callS X620 hx (y := (⟨"gatherwick/maps/RedBlackTree", "rebalanceAfterLink", "(Lgatherwick/maps/RedBlackTree$Node;Lgatherwick/maps/RedBlackTree$Node;)Lgatherwick/maps/RedBlackTree$Node;"⟩ : MethodName)) hown (mvT hZ (own_w hw 147 rfl)) (mvT hZ (own_w hw 148 rfl)) (mvT hZ (own_w hw 144 rfl)) (mvT hZ (own_w hw 149 rfl)) (by decide) (backOf (W := 0) (rmBWlr l Z a0 hw [] n1 an n2 h620 n0 Z620 f622 g_n1 f623 g_n2 f624 g_an ne12 (Ne.symm ne_an0) (Ne.symm ne_an1) f625 f626 f627 f628 Fw620 f629 f630 f631 f632 f633 f634 f635) hZ (own_w hw 149 rfl) (own_w hw 144 rfl) (by decide) (by decide)) (g := (mkF m 33 #[.val (.ref n1), .val (.ref an), .val (.int (0 : Int32)), .val (.ref n2)] [(.ref an), (.ref n1)])) rfl (by rw [hml]; rfl) (argsL := [(.ref n1), (.ref an)]) (rest := []) (lenOf pd__Lgatherwick_maps_RedBlackTree_Node_Lgatherwick_maps_RedBlackTree_Node__Lgatherwick_maps_RedBlackTree_Node_ rfl) rfl (by show 2 * 0 + _ ≤ _; exact Nat.le_of_eq rfl) (hb hby d25_33) (fun _ _ => ⟨rfl, e620, (by decide : 0 + 0 ≤ _), (by decide : 0 + 0 ≤ _)⟩)
    dsimp only [Pt.U, Pt.locs, Pt.cells, Pt.slots] at X621 l621 y621 z621 st621 hQ621
    subst l621 y621 z621
    obtain ⟨h621, e621⟩ : ∃ h, T621.heap = h := ⟨_, rfl⟩
    rw [e621] at hQ621
    obtain ⟨rfl, Nq621, Kq621⟩ := hQ621
    have N621 := Fr.app N620 Nq621
    have Z621 : n0 ≤ h621.size := Nat.le_trans Z620 Kq621.1
    have KK621 := KK620.trans Kq621 (allS (Or.inl (List.mem_of_getElem? (i := 0) rfl)) (allS (Or.inl (List.mem_of_getElem? (i := 1) rfl)) (allS (Or.inl (List.mem_of_getElem? (i := 2) rfl)) all0)))
    refine Go.step st621 ?_
    show Go _ _ _ _ _ _ _ T621 (mkF m 36 #[.val (.ref n1), .val (.ref an), .val (.int (0 : Int32)), .val (.ref n2)] [(.ref an)])
    exact Go.retA X621 hx hret hlk rfl rfl (hb hby d25_36) e621 (by decide) (by decide) ⟨an, rfl, N621, KK621⟩
  · obtain ⟨W1, W2, W3, W4, W5, W6, W7, W8⟩ := W
    have c_right : Fld Z h0 n1 "gatherwick/maps/RedBlackTree$Node" "right" "Lgatherwick/maps/RedBlackTree$Node;" (.ref n2) := W2
    have c_left : Fld Z h0 n1 "gatherwick/maps/RedBlackTree$Node" "left" "Lgatherwick/maps/RedBlackTree$Node;" .null := W1
    have c_parent : Fld Z h0 n1 "gatherwick/maps/RedBlackTree$Node" "parent" "Lgatherwick/maps/RedBlackTree$Node;" .null := W3
    have c_red : Fld Z h0 n1 "gatherwick/maps/RedBlackTree$Node" "red" "Z" (.int (0 : Int32)) := W4
    have d_left : Fld Z h0 n2 "gatherwick/maps/RedBlackTree$Node" "left" "Lgatherwick/maps/RedBlackTree$Node;" .null := W5
    have d_right : Fld Z h0 n2 "gatherwick/maps/RedBlackTree$Node" "right" "Lgatherwick/maps/RedBlackTree$Node;" .null := W6
    have d_parent : Fld Z h0 n2 "gatherwick/maps/RedBlackTree$Node" "parent" "Lgatherwick/maps/RedBlackTree$Node;" (.ref n1) := W7
    have d_red : Fld Z h0 n2 "gatherwick/maps/RedBlackTree$Node" "red" "Z" (.int (1 : Int32)) := W8
    show Go _ _ _ _ _ _ _ s₁ (mkF m 0 #[.val (.ref n1), .val (.ref an), .val (.int (1 : Int32)), .unset] [])
    refine Go.step (fun _ k => XS.aloadN X0.here hx rfl (hb hby d25_0) rfl rfl k) ?_
    obtain ⟨T636, X636, e636, st636⟩ := getF X0 hx hZ hown (host := "") (Or.inl (own_w hw 146 rfl)) Via.refl e0 a_parent (g := (mkF m 1 #[.val (.ref n1), .val (.ref an), .val (.int (1 : Int32)), .unset] [(.ref an)])) rfl rfl (hb hby d25_1)
    refine Go.step st636 ?_
    show Go _ _ _ _ _ _ _ T636 (mkF m 4 #[.val (.ref n1), .val (.ref an), .val (.int (1 : Int32)), .unset] [(.ref n2)])
    refine Go.step (fun _ k => XS.astoreN X636.here hx rfl (hb hby d25_4) rfl rfl (l' := #[.val (.ref n1), .val (.ref an), .val (.int (1 : Int32)), .val (.ref n2)]) rfl k) ?_
    show Go _ _ _ _ _ _ _ T636 (mkF m 5 #[.val (.ref n1), .val (.ref an), .val (.int (1 : Int32)), .val (.ref n2)] [])
    refine Go.step (fun _ k => XS.aloadN X636.here hx rfl (hb hby d25_5) rfl rfl k) ?_
    refine Go.step (fun _ k => XS.ifnonnullYes X636.here hx rfl (pc0 := 6) (pc' := 14) rfl (hb hby d25_6) rfl (by decide) (by decide) k) ?_
    show Go _ _ _ _ _ _ _ T636 (mkF m 14 #[.val (.ref n1), .val (.ref an), .val (.int (1 : Int32)), .val (.ref n2)] [])
    refine Go.step (fun _ k => XS.iloadN X636.here hx rfl (hb hby d25_14) rfl k) ?_
    have hc15_637 : ¬ ((1 : Int32) = (0 : Int32)) := (by decide)
    refine Go.step (fun _ k => XS.ifNo X636.here hx rfl (hb hby d25_15) rfl ((if0 _ _).trans (feq hc15_637).1) k) ?_
    show Go _ _ _ _ _ _ _ T636 (mkF m 18 #[.val (.ref n1), .val (.ref an), .val (.int (1 : Int32)), .val (.ref n2)] [])
    refine Go.step (fun _ k => XS.aloadN X636.here hx rfl (hb hby d25_18) rfl rfl k) ?_
    refine Go.step (fun _ k => XS.aloadN X636.here hx rfl (hb hby d25_19) rfl rfl k) ?_
    obtain ⟨T638, h638, X638, e638, W638, st638⟩ := putF X636 hx hZ hown (host := "") (Or.inl (own_w hw 180 rfl)) Via.refl e636 d_left E_n2 (Or.inl (own_w hw 179 rfl)) (own_w hw 119 rfl) (ty := (.object "gatherwick/maps/RedBlackTree$Node")) (by decide) rfl rfl (g := (mkF m 20 #[.val (.ref n1), .val (.ref an), .val (.int (1 : Int32)), .val (.ref n2)] [(.ref an), (.ref n2)])) rfl rfl (hb hby d25_20)
    refine Go.step st638 ?_
    have Fw638 := d_left.same W638
    have N638 := Fr.snoc X638 N0 g_n2
    have Z638 : n0 ≤ h638.size := Nat.le_trans Z0 (Keep.of_wr W638).1
    have KK638 := (Keep.refl h0 [n1, n2, an]).wr W638 (Or.inl (List.mem_of_getElem? (i := 1) rfl))
    show Go _ _ _ _ _ _ _ T638 (mkF m 23 #[.val (.ref n1), .val (.ref an), .val (.int (1 : Int32)), .val (.ref n2)] [])
    refine Go.step (fun _ k => XS.goto X638.here hx rfl (pc0 := 23) (pc' := 31) rfl (hb hby d25_23) (by decide) (by decide) k) ?_
    show Go _ _ _ _ _ _ _ T638 (mkF m 31 #[.val (.ref n1), .val (.ref an), .val (.int (1 : Int32)), .val (.ref n2)] [])
    refine Go.step (fun _ k => XS.aloadN X638.here hx rfl (hb hby d25_31) rfl rfl k) ?_
    refine Go.step (fun _ k => XS.aloadN X638.here hx rfl (hb hby d25_32) rfl rfl k) ?_
    have f640 := (E_n1.wr W638)
    have f641 := (E_n2.wr W638)
    have f642 := (E_an.wr W638)
    have f643 := (c_right.other W638 (Or.inl ne12))
    have f644 := (c_left.other W638 (Or.inl ne12))
    have f645 := (c_parent.other W638 (Or.inl ne12))
    have f646 := (c_red.other W638 (Or.inl ne12))
    have f647 := (d_right.other W638 (Or.inr (slot_ne (a0 := a0) (C := "gatherwick/maps/RedBlackTree$Node") (Or.inl (own_w hw 176 rfl)) (Or.inl (own_w hw 179 rfl)) (by decide) (t := (.object "gatherwick/maps/RedBlackTree$Node")) (t' := (.object "gatherwick/maps/RedBlackTree$Node")) (by decide) (by decide))))
    have f648 := (d_parent.other W638 (Or.inr (slot_ne (a0 := a0) (C := "gatherwick/maps/RedBlackTree$Node") (Or.inl (own_w hw 139 rfl)) (Or.inl (own_w hw 179 rfl)) (by decide) (t := (.object "gatherwick/maps/RedBlackTree$Node")) (t' := (.object "gatherwick/maps/RedBlackTree$Node")) (by decide) (by decide))))
    have f649 := (d_red.other W638 (Or.inr (slot_ne (a0 := a0) (C := "gatherwick/maps/RedBlackTree$Node") (Or.inl (own_w hw 133 rfl)) (Or.inl (own_w hw 179 rfl)) (by decide) (t := .boolean) (t' := (.object "gatherwick/maps/RedBlackTree$Node")) (by decide) (by decide))))
    have f650 := (a_left.other W638 (Or.inl ne_an1))
    have f651 := (a_right.other W638 (Or.inl ne_an1))
    have f652 := (a_parent.other W638 (Or.inl ne_an1))
    have f653 := (a_red.other W638 (Or.inl ne_an1))
    obtain ⟨_, _, ⟨T639, L639, k639, n639⟩, -, X639, ⟨Lc639, hQ639, l639, y639, z639⟩, st639⟩ := Jvm.LawKit.callS X638 hx (y := (⟨"gatherwick/maps/RedBlackTree", "rebalanceAfterLink", "(Lgatherwick/maps/RedBlackTree$Node;Lgatherwick/maps/RedBlackTree$Node;)Lgatherwick/maps/RedBlackTree$Node;"⟩ : MethodName)) hown (mvT hZ (own_w hw 147 rfl)) (mvT hZ (own_w hw 148 rfl)) (mvT hZ (own_w hw 144 rfl)) (mvT hZ (own_w hw 149 rfl)) (by decide) (backOf (W := 0) (rmBWrl l Z a0 hw [] n1 an n2 h638 n0 Z638 f640 g_n1 f641 g_n2 f642 g_an ne12 (Ne.symm ne_an0) (Ne.symm ne_an1) f643 f644 f645 f646 Fw638 f647 f648 f649 f650 f651 f652 f653) hZ (own_w hw 149 rfl) (own_w hw 144 rfl) (by decide) (by decide)) (g := (mkF m 33 #[.val (.ref n1), .val (.ref an), .val (.int (1 : Int32)), .val (.ref n2)] [(.ref an), (.ref n1)])) rfl (by rw [hml]; rfl) (argsL := [(.ref n1), (.ref an)]) (rest := []) (lenOf pd__Lgatherwick_maps_RedBlackTree_Node_Lgatherwick_maps_RedBlackTree_Node__Lgatherwick_maps_RedBlackTree_Node_ rfl) rfl (by show 2 * 0 + _ ≤ _; exact Nat.le_of_eq rfl) (hb hby d25_33) (fun _ _ => ⟨rfl, e638, (by decide : 0 + 0 ≤ _), (by decide : 0 + 0 ≤ _)⟩)
    dsimp only [Pt.U, Pt.locs, Pt.cells, Pt.slots] at X639 l639 y639 z639 st639 hQ639
    subst l639 y639 z639
    obtain ⟨h639, e639⟩ : ∃ h, T639.heap = h := ⟨_, rfl⟩
    rw [e639] at hQ639
    obtain ⟨rfl, Nq639, Kq639⟩ := hQ639
    have N639 := Fr.app N638 Nq639
    have Z639 : n0 ≤ h639.size := Nat.le_trans Z638 Kq639.1
    have KK639 := KK638.trans Kq639 (allS (Or.inl (List.mem_of_getElem? (i := 0) rfl)) (allS (Or.inl (List.mem_of_getElem? (i := 1) rfl)) (allS (Or.inl (List.mem_of_getElem? (i := 2) rfl)) all0)))
    refine Go.step st639 ?_
    show Go _ _ _ _ _ _ _ T639 (mkF m 36 #[.val (.ref n1), .val (.ref an), .val (.int (1 : Int32)), .val (.ref n2)] [(.ref an)])
    exact Go.retA X639 hx hret hlk rfl rfl (hb hby d25_36) e639 (by decide) (by decide) ⟨an, rfl, N639, KK639⟩
  · obtain ⟨W1, W2, W3, W4, W5, W6, W7, W8⟩ := W
    have c_left : Fld Z h0 n1 "gatherwick/maps/RedBlackTree$Node" "left" "Lgatherwick/maps/RedBlackTree$Node;" (.ref n2) := W1
    have c_right : Fld Z h0 n1 "gatherwick/maps/RedBlackTree$Node" "right" "Lgatherwick/maps/RedBlackTree$Node;" .null := W2
    have c_parent : Fld Z h0 n1 "gatherwick/maps/RedBlackTree$Node" "parent" "Lgatherwick/maps/RedBlackTree$Node;" .null := W3
    have c_red : Fld Z h0 n1 "gatherwick/maps/RedBlackTree$Node" "red" "Z" (.int (0 : Int32)) := W4
    have d_left : Fld Z h0 n2 "gatherwick/maps/RedBlackTree$Node" "left" "Lgatherwick/maps/RedBlackTree$Node;" .null := W5
    have d_right : Fld Z h0 n2 "gatherwick/maps/RedBlackTree$Node" "right" "Lgatherwick/maps/RedBlackTree$Node;" .null := W6
    have d_parent : Fld Z h0 n2 "gatherwick/maps/RedBlackTree$Node" "parent" "Lgatherwick/maps/RedBlackTree$Node;" (.ref n1) := W7
    have d_red : Fld Z h0 n2 "gatherwick/maps/RedBlackTree$Node" "red" "Z" (.int (1 : Int32)) := W8
    show Go _ _ _ _ _ _ _ s₁ (mkF m 0 #[.val (.ref n1), .val (.ref an), .val (.int (1 : Int32)), .unset] [])
    refine Go.step (fun _ k => XS.aloadN X0.here hx rfl (hb hby d25_0) rfl rfl k) ?_
    obtain ⟨T654, X654, e654, st654⟩ := getF X0 hx hZ hown (host := "") (Or.inl (own_w hw 146 rfl)) Via.refl e0 a_parent (g := (mkF m 1 #[.val (.ref n1), .val (.ref an), .val (.int (1 : Int32)), .unset] [(.ref an)])) rfl rfl (hb hby d25_1)
    refine Go.step st654 ?_
    show Go _ _ _ _ _ _ _ T654 (mkF m 4 #[.val (.ref n1), .val (.ref an), .val (.int (1 : Int32)), .unset] [(.ref n2)])
    refine Go.step (fun _ k => XS.astoreN X654.here hx rfl (hb hby d25_4) rfl rfl (l' := #[.val (.ref n1), .val (.ref an), .val (.int (1 : Int32)), .val (.ref n2)]) rfl k) ?_
    show Go _ _ _ _ _ _ _ T654 (mkF m 5 #[.val (.ref n1), .val (.ref an), .val (.int (1 : Int32)), .val (.ref n2)] [])
    refine Go.step (fun _ k => XS.aloadN X654.here hx rfl (hb hby d25_5) rfl rfl k) ?_
    refine Go.step (fun _ k => XS.ifnonnullYes X654.here hx rfl (pc0 := 6) (pc' := 14) rfl (hb hby d25_6) rfl (by decide) (by decide) k) ?_
    show Go _ _ _ _ _ _ _ T654 (mkF m 14 #[.val (.ref n1), .val (.ref an), .val (.int (1 : Int32)), .val (.ref n2)] [])
    refine Go.step (fun _ k => XS.iloadN X654.here hx rfl (hb hby d25_14) rfl k) ?_
    have hc15_655 : ¬ ((1 : Int32) = (0 : Int32)) := (by decide)
    refine Go.step (fun _ k => XS.ifNo X654.here hx rfl (hb hby d25_15) rfl ((if0 _ _).trans (feq hc15_655).1) k) ?_
    show Go _ _ _ _ _ _ _ T654 (mkF m 18 #[.val (.ref n1), .val (.ref an), .val (.int (1 : Int32)), .val (.ref n2)] [])
    refine Go.step (fun _ k => XS.aloadN X654.here hx rfl (hb hby d25_18) rfl rfl k) ?_
    refine Go.step (fun _ k => XS.aloadN X654.here hx rfl (hb hby d25_19) rfl rfl k) ?_
    obtain ⟨T656, h656, X656, e656, W656, st656⟩ := putF X654 hx hZ hown (host := "") (Or.inl (own_w hw 180 rfl)) Via.refl e654 d_left E_n2 (Or.inl (own_w hw 179 rfl)) (own_w hw 119 rfl) (ty := (.object "gatherwick/maps/RedBlackTree$Node")) (by decide) rfl rfl (g := (mkF m 20 #[.val (.ref n1), .val (.ref an), .val (.int (1 : Int32)), .val (.ref n2)] [(.ref an), (.ref n2)])) rfl rfl (hb hby d25_20)
    refine Go.step st656 ?_
    have Fw656 := d_left.same W656
    have N656 := Fr.snoc X656 N0 g_n2
    have Z656 : n0 ≤ h656.size := Nat.le_trans Z0 (Keep.of_wr W656).1
    have KK656 := (Keep.refl h0 [n1, n2, an]).wr W656 (Or.inl (List.mem_of_getElem? (i := 1) rfl))
    show Go _ _ _ _ _ _ _ T656 (mkF m 23 #[.val (.ref n1), .val (.ref an), .val (.int (1 : Int32)), .val (.ref n2)] [])
    refine Go.step (fun _ k => XS.goto X656.here hx rfl (pc0 := 23) (pc' := 31) rfl (hb hby d25_23) (by decide) (by decide) k) ?_
    show Go _ _ _ _ _ _ _ T656 (mkF m 31 #[.val (.ref n1), .val (.ref an), .val (.int (1 : Int32)), .val (.ref n2)] [])
    refine Go.step (fun _ k => XS.aloadN X656.here hx rfl (hb hby d25_31) rfl rfl k) ?_
    refine Go.step (fun _ k => XS.aloadN X656.here hx rfl (hb hby d25_32) rfl rfl k) ?_
    have f658 := (E_n1.wr W656)
    have f659 := (E_n2.wr W656)
    have f660 := (E_an.wr W656)
    have f661 := (c_left.other W656 (Or.inl ne12))
    have f662 := (c_right.other W656 (Or.inl ne12))
    have f663 := (c_parent.other W656 (Or.inl ne12))
    have f664 := (c_red.other W656 (Or.inl ne12))
    have f665 := (d_right.other W656 (Or.inr (slot_ne (a0 := a0) (C := "gatherwick/maps/RedBlackTree$Node") (Or.inl (own_w hw 176 rfl)) (Or.inl (own_w hw 179 rfl)) (by decide) (t := (.object "gatherwick/maps/RedBlackTree$Node")) (t' := (.object "gatherwick/maps/RedBlackTree$Node")) (by decide) (by decide))))
    have f666 := (d_parent.other W656 (Or.inr (slot_ne (a0 := a0) (C := "gatherwick/maps/RedBlackTree$Node") (Or.inl (own_w hw 139 rfl)) (Or.inl (own_w hw 179 rfl)) (by decide) (t := (.object "gatherwick/maps/RedBlackTree$Node")) (t' := (.object "gatherwick/maps/RedBlackTree$Node")) (by decide) (by decide))))
    have f667 := (d_red.other W656 (Or.inr (slot_ne (a0 := a0) (C := "gatherwick/maps/RedBlackTree$Node") (Or.inl (own_w hw 133 rfl)) (Or.inl (own_w hw 179 rfl)) (by decide) (t := .boolean) (t' := (.object "gatherwick/maps/RedBlackTree$Node")) (by decide) (by decide))))
    have f668 := (a_left.other W656 (Or.inl ne_an1))
    have f669 := (a_right.other W656 (Or.inl ne_an1))
    have f670 := (a_parent.other W656 (Or.inl ne_an1))
    have f671 := (a_red.other W656 (Or.inl ne_an1))
    obtain ⟨_, _, ⟨T657, L657, k657, n657⟩, -, X657, ⟨Lc657, hQ657, l657, y657, z657⟩, st657⟩ := Jvm.LawKit.callS X656 hx (y := (⟨"gatherwick/maps/RedBlackTree", "rebalanceAfterLink", "(Lgatherwick/maps/RedBlackTree$Node;Lgatherwick/maps/RedBlackTree$Node;)Lgatherwick/maps/RedBlackTree$Node;"⟩ : MethodName)) hown (mvT hZ (own_w hw 147 rfl)) (mvT hZ (own_w hw 148 rfl)) (mvT hZ (own_w hw 144 rfl)) (mvT hZ (own_w hw 149 rfl)) (by decide) (backOf (W := 0) (rmBWll l Z a0 hw [] n1 an n2 h656 n0 Z656 f658 g_n1 f659 g_n2 f660 g_an ne12 (Ne.symm ne_an0) (Ne.symm ne_an1) f661 f662 f663 f664 Fw656 f665 f666 f667 f668 f669 f670 f671) hZ (own_w hw 149 rfl) (own_w hw 144 rfl) (by decide) (by decide)) (g := (mkF m 33 #[.val (.ref n1), .val (.ref an), .val (.int (1 : Int32)), .val (.ref n2)] [(.ref an), (.ref n1)])) rfl (by rw [hml]; rfl) (argsL := [(.ref n1), (.ref an)]) (rest := []) (lenOf pd__Lgatherwick_maps_RedBlackTree_Node_Lgatherwick_maps_RedBlackTree_Node__Lgatherwick_maps_RedBlackTree_Node_ rfl) rfl (by show 2 * 0 + _ ≤ _; exact Nat.le_of_eq rfl) (hb hby d25_33) (fun _ _ => ⟨rfl, e656, (by decide : 0 + 0 ≤ _), (by decide : 0 + 0 ≤ _)⟩)
    dsimp only [Pt.U, Pt.locs, Pt.cells, Pt.slots] at X657 l657 y657 z657 st657 hQ657
    subst l657 y657 z657
    obtain ⟨h657, e657⟩ : ∃ h, T657.heap = h := ⟨_, rfl⟩
    rw [e657] at hQ657
    obtain ⟨rfl, Nq657, Kq657⟩ := hQ657
    have N657 := Fr.app N656 Nq657
    have Z657 : n0 ≤ h657.size := Nat.le_trans Z656 Kq657.1
    have KK657 := KK656.trans Kq657 (allS (Or.inl (List.mem_of_getElem? (i := 0) rfl)) (allS (Or.inl (List.mem_of_getElem? (i := 1) rfl)) all0))
    refine Go.step st657 ?_
    show Go _ _ _ _ _ _ _ T657 (mkF m 36 #[.val (.ref n1), .val (.ref an), .val (.int (1 : Int32)), .val (.ref n2)] [(.ref n2)])
    exact Go.retA X657 hx hret hlk rfl rfl (hb hby d25_36) e657 (by decide) (by decide) ⟨n2, rfl, N657, KK657⟩
theorem ef_rmMW (m : MethodId) (am : Addr) (ap : Addr) (ak : Addr) (av : Addr) : entryFrame m #[(.ref am), (.ref ap), (.ref ak), (.ref av)] 4 = mkF m 0 #[.val (.ref am), .val (.ref ap), .val (.ref ak), .val (.ref av)] [] := by first | (simp [entryFrame, mkF, argsToLocals, Value.category]; done) | rfl
def Q_rmMW (Z : State) (am : Addr) (ap : Addr) (ak : Addr) (av : Addr) (sz : Int32) (mc : Int32) (n1 : Addr) (n2 : Addr) (x1 : Addr) (fl : Int32) (d : Bool) (h0 : Heap) (n0 : Nat) (v : Option Value) (h : Heap) (L : List Loc) : Prop := ∃ nr : Addr, (v = none) ∧ (Fr n0 L) ∧ (Keep h0 h [am, n1, n2]) ∧ (Fld Z h am "gatherwick/maps/GwTreeMap" "comparator" "Ljava/util/Comparator;" .null) ∧ (Fld Z h am "gatherwick/maps/GwTreeMap" "root" "Lgatherwick/maps/RedBlackTree$Node;" (.ref nr)) ∧ (Fld Z h am "gatherwick/maps/GwTreeMap" "size" "I" (.int (sz + (1 : Int32)))) ∧ (Fld Z h am "gatherwick/maps/GwTreeMap" "modCount" "I" (.int (mc + (1 : Int32))))
theorem rmMW (l : Launch) (Z : State) (a0 : Array Value) (hw : ∀ d ∈ tables_1, d.before a0 Z = true) (ws : List Jvm.Cond) (am : Addr) (ap : Addr) (ak : Addr) (av : Addr) (sz : Int32) (mc : Int32) (n1 : Addr) (n2 : Addr) (x1 : Addr) (fl : Int32) (d : Bool) (h0 : Heap) (n0 : Nat) (Z0 : n0 ≤ h0.size) (Em : Exa Z h0 am "gatherwick/maps/GwTreeMap") (gm : n0 ≤ am) (m_comparator : Fld Z h0 am "gatherwick/maps/GwTreeMap" "comparator" "Ljava/util/Comparator;" .null) (m_root : Fld Z h0 am "gatherwick/maps/GwTreeMap" "root" "Lgatherwick/maps/RedBlackTree$Node;" (.ref n1)) (m_size : Fld Z h0 am "gatherwick/maps/GwTreeMap" "size" "I" (.int sz)) (m_modCount : Fld Z h0 am "gatherwick/maps/GwTreeMap" "modCount" "I" (.int mc)) (Ep : Exa Z h0 ap "gatherwick/maps/GwTreeMap$Place") (P_p : Fld Z h0 ap "gatherwick/maps/GwTreeMap$Place" "parent" "Lgatherwick/maps/RedBlackTree$Node;" (.ref n2)) (P_l : Fld Z h0 ap "gatherwick/maps/GwTreeMap$Place" "left" "Z" (.int fl)) (hz : ¬ (sz = (2147483639 : Int32))) (E_n1 : Exa Z h0 n1 "gatherwick/maps/RedBlackTree$Node") (g_n1 : n0 ≤ n1) (E_n2 : Exa Z h0 n2 "gatherwick/maps/RedBlackTree$Node") (g_n2 : n0 ≤ n2) (ne12 : n1 ≠ n2) (W : own_W Z h0 d n1 n2) (hfl : fl = 0 ∨ fl = 1) :
    MetFree l (⟨"gatherwick/maps/GwTreeMap", "link", "(Lgatherwick/maps/GwTreeMap$Place;Ljava/lang/Object;Ljava/lang/Object;)V"⟩ : MethodName) (head1 (Jvm.Cond.code (⟨"gatherwick/maps/GwTreeMap", "link", "(Lgatherwick/maps/GwTreeMap$Place;Ljava/lang/Object;Ljava/lang/Object;)V"⟩ : MethodName) prog_46_method_92_code 4 none :: ws) ({ frames := 4, cells := 1, slots := 6, locals := 61 } : Room)) (fun aA U => aA = #[(.ref am), (.ref ap), (.ref ak), (.ref av)] ∧ Z.Warmed39 U.vm ∧ U.heap = h0) (fun _ _ _ _ _ => True) (fun _ U o U' => ∃ v L, o = .returned v ∧ Q_rmMW Z am ap ak av sz mc n1 n2 x1 fl d h0 n0 v U'.heap L ∧ FrameEnd U o U' L ({ frames := 4, cells := 1, slots := 6, locals := 61 } : Room).cells ({ frames := 4, cells := 1, slots := 6, locals := 61 } : Room).slots) := by
  refine MetFree.of_bodySF (plainFor_of_name pn_gatherwick_maps_GwTreeMap) hisR ?_
  intro p e s m args below meth c s₁ Bd hml0 hP hK
  obtain ⟨rfl, hZ, hh⟩ := hP
  have hx := Bd.exec
  have hby := Bd.bytes
  have hml : c.maxLocals = 4 := hml0
  have hown : s.vm.findClass "gatherwick/maps/GwTreeMap" = some m.cls := findClass_of_methodNamed Bd.named
  have hnm := (name_of_methodNamed Bd.named Bd.method).1
  have hret := Bd.returns
  have hlk : meth.locks = false := BodyLoose.notSynchronized Bd
  have X0 : Stand p l e ({ frames := 4, cells := 1, slots := 6, locals := 61 } : Room) s m #[(.ref am), (.ref ap), (.ref ak), (.ref av)] below meth c s₁ [] 0 0 := Stand.of_body Bd
  have e0 : s₁.heap = h0 := by rw [← hh, Bd.state]; rfl
  have N0 := Fr.nil n0
  suffices hgo : Go p e below s ({ frames := 4, cells := 1, slots := 6, locals := 61 } : Room).cells ({ frames := 4, cells := 1, slots := 6, locals := 61 } : Room).slots (Q_rmMW Z am ap ak av sz mc n1 n2 x1 fl d h0 n0) s₁ (mkF m 0 #[.val (.ref am), .val (.ref ap), .val (.ref ak), .val (.ref av)] []) from hgo.enter (ef_rmMW m am ap ak av)
  refine Go.step (fun _ k => XS.aloadN X0.here hx rfl (hb hby d21_0) rfl rfl k) ?_
  obtain ⟨T672, X672, e672, st672⟩ := getF X0 hx hZ hown (host := "") (Or.inl (own_w hw 21 rfl)) Via.refl e0 m_size (g := (mkF m 1 #[.val (.ref am), .val (.ref ap), .val (.ref ak), .val (.ref av)] [(.ref am)])) rfl rfl (hb hby d21_1)
  refine Go.step st672 ?_
  show Go _ _ _ _ _ _ _ T672 (mkF m 4 #[.val (.ref am), .val (.ref ap), .val (.ref ak), .val (.ref av)] [(.int sz)])
  obtain ⟨_, _, ⟨T673, L673, k673, n673⟩, -, X673, ⟨Lc673, hQ673, l673, y673, z673⟩, st673⟩ := Jvm.LawKit.callS X672 hx (y := (⟨"gatherwick/maps/GwTreeMap", "checkRoom", "(I)V"⟩ : MethodName)) hown (mvT hZ (own_w hw 114 rfl)) (mvT hZ (own_w hw 115 rfl)) (mvT hZ (own_w hw 2 rfl)) (mvT hZ (own_w hw 116 rfl)) (by decide) (backOf (W := 0) (rmCr l Z a0 hw [] sz h0 n0 Z0 hz) hZ (own_w hw 116 rfl) (own_w hw 2 rfl) (by decide) (by decide)) (g := (mkF m 4 #[.val (.ref am), .val (.ref ap), .val (.ref ak), .val (.ref av)] [(.int sz)])) rfl (by rw [hml]; rfl) (argsL := [(.int sz)]) (rest := []) (lenOf pd__I_V rfl) rfl (by show 2 * 0 + _ ≤ _; exact Nat.le_of_eq rfl) (hb hby d21_4) (fun _ _ => ⟨rfl, e672, (by decide : 0 + 0 ≤ _), (by decide : 0 + 0 ≤ _)⟩)
  dsimp only [Pt.U, Pt.locs, Pt.cells, Pt.slots] at X673 l673 y673 z673 st673 hQ673
  subst l673 y673 z673
  obtain ⟨h673, e673⟩ : ∃ h, T673.heap = h := ⟨_, rfl⟩
  rw [e673] at hQ673
  obtain ⟨rfl, Nq673, hs673⟩ := hQ673
  have N673 := Fr.app N0 Nq673
  rw [hs673] at e673
  refine Go.step st673 ?_
  show Go _ _ _ _ _ _ _ T673 (mkF m 7 #[.val (.ref am), .val (.ref ap), .val (.ref ak), .val (.ref av)] [])
  refine Go.step (fun _ k => XS.aloadN X673.here hx rfl (hb hby d21_7) rfl rfl k) ?_
  refine Go.step (fun _ k => XS.aloadN X673.here hx rfl (hb hby d21_8) rfl rfl k) ?_
  obtain ⟨T674, X674, e674, st674⟩ := getF X673 hx hZ hown (host := "") (Or.inl (own_w hw 52 rfl)) Via.refl e673 m_root (g := (mkF m 9 #[.val (.ref am), .val (.ref ap), .val (.ref ak), .val (.ref av)] [(.ref am), (.ref am)])) rfl rfl (hb hby d21_9)
  refine Go.step st674 ?_
  show Go _ _ _ _ _ _ _ T674 (mkF m 12 #[.val (.ref am), .val (.ref ap), .val (.ref ak), .val (.ref av)] [(.ref n1), (.ref am)])
  obtain ⟨T675, h675, X675, e675, E675, A675, D675, -, st675⟩ := newO X674 hx hZ hown (own_w hw 118 rfl) (own_w hw 119 rfl) (own_w hw 120 rfl) e674 (g := (mkF m 12 #[.val (.ref am), .val (.ref ap), .val (.ref ak), .val (.ref av)] [(.ref n1), (.ref am)])) rfl (hb hby d21_12) (by decide) (by decide)
  obtain ⟨b675, g675⟩ : ∃ z, z = h0.size := ⟨_, rfl⟩
  rw [← g675] at A675 D675 st675
  refine Go.step st675 ?_
  have g_b675 : n0 ≤ b675 := Nat.le_trans Z0 (Nat.le_of_eq g675.symm)
  have sz_b675 : h0.size ≤ b675 := Nat.le_trans (Keep.refl h0 [am, n1, n2]).1 (Nat.le_of_eq g675.symm)
  have ne_am_b675 : am ≠ b675 := Nat.ne_of_lt (Nat.lt_of_lt_of_le Em.lt (Nat.le_of_eq g675.symm))
  have ne_ap_b675 : ap ≠ b675 := Nat.ne_of_lt (Nat.lt_of_lt_of_le Ep.lt (Nat.le_of_eq g675.symm))
  have ne_n1_b675 : n1 ≠ b675 := Nat.ne_of_lt (Nat.lt_of_lt_of_le E_n1.lt (Nat.le_of_eq g675.symm))
  have ne_n2_b675 : n2 ≠ b675 := Nat.ne_of_lt (Nat.lt_of_lt_of_le E_n2.lt (Nat.le_of_eq g675.symm))
  have Z675 : n0 ≤ h675.size := Nat.le_trans Z0 E675.1
  have KK675 := (Keep.refl h0 [am, n1, n2]).ext E675
  have Fred_675 : Fld Z h675 b675 "gatherwick/maps/RedBlackTree$Node" "red" "Z" (.int (0 : Int32)) := D675 (Or.inl (own_w hw 133 rfl)) (ty := .boolean) (by decide)
  have Fkey_675 : Fld Z h675 b675 "gatherwick/maps/RedBlackTree$Node" "key" "Ljava/lang/Object;" .null := D675 (Or.inr (own_w hw 135 rfl)) (ty := (.object "java/lang/Object")) (by decide)
  have Fvalue_675 : Fld Z h675 b675 "gatherwick/maps/RedBlackTree$Node" "value" "Ljava/lang/Object;" .null := D675 (Or.inl (own_w hw 137 rfl)) (ty := (.object "java/lang/Object")) (by decide)
  have Fparent_675 : Fld Z h675 b675 "gatherwick/maps/RedBlackTree$Node" "parent" "Lgatherwick/maps/RedBlackTree$Node;" .null := D675 (Or.inl (own_w hw 139 rfl)) (ty := (.object "gatherwick/maps/RedBlackTree$Node")) (by decide)
  have Fright_675 : Fld Z h675 b675 "gatherwick/maps/RedBlackTree$Node" "right" "Lgatherwick/maps/RedBlackTree$Node;" .null := D675 (Or.inl (own_w hw 176 rfl)) (ty := (.object "gatherwick/maps/RedBlackTree$Node")) (by decide)
  have Fleft_675 : Fld Z h675 b675 "gatherwick/maps/RedBlackTree$Node" "left" "Lgatherwick/maps/RedBlackTree$Node;" .null := D675 (Or.inl (own_w hw 179 rfl)) (ty := (.object "gatherwick/maps/RedBlackTree$Node")) (by decide)
  show Go _ _ _ _ _ _ _ T675 (mkF m 15 #[.val (.ref am), .val (.ref ap), .val (.ref ak), .val (.ref av)] [(.ref b675), (.ref n1), (.ref am)])
  refine Go.step (fun _ k => XS.dup X675.here hx rfl (hb hby d21_15) rfl rfl k) ?_
  refine Go.step (fun _ k => XS.aloadN X675.here hx rfl (hb hby d21_16) rfl rfl k) ?_
  refine Go.step (fun _ k => XS.aloadN X675.here hx rfl (hb hby d21_17) rfl rfl k) ?_
  refine Go.step (fun _ k => XS.aloadN X675.here hx rfl (hb hby d21_18) rfl rfl k) ?_
  have f676 := (P_p.ext E675)
  obtain ⟨T677, X677, e677, st677⟩ := getF X675 hx hZ hown (host := "") (Or.inl (own_w hw 121 rfl)) Via.refl e675 f676 (g := (mkF m 19 #[.val (.ref am), .val (.ref ap), .val (.ref ak), .val (.ref av)] [(.ref ap), (.ref av), (.ref ak), (.ref b675), (.ref b675), (.ref n1), (.ref am)])) rfl rfl (hb hby d21_19)
  refine Go.step st677 ?_
  show Go _ _ _ _ _ _ _ T677 (mkF m 22 #[.val (.ref am), .val (.ref ap), .val (.ref ak), .val (.ref av)] [(.ref n2), (.ref av), (.ref ak), (.ref b675), (.ref b675), (.ref n1), (.ref am)])
  obtain ⟨_, _, ⟨T678, L678, k678, n678⟩, -, X678, ⟨Lc678, hQ678, l678, y678, z678⟩, st678⟩ := X677.specialBack hx (y := (⟨"gatherwick/maps/RedBlackTree$Node", "<init>", "(Ljava/lang/Object;Ljava/lang/Object;Lgatherwick/maps/RedBlackTree$Node;)V"⟩ : MethodName)) rfl hown (mvT hZ (own_w hw 123 rfl)) (mvT hZ (own_w hw 124 rfl)) (mvT hZ (own_w hw 125 rfl)) (by decide) (backOf (W := 3) (rmNi l Z a0 hw [] b675 ak av (.ref n2) h675 n0 Z675 A675 g_b675 Fkey_675 Fvalue_675 Fleft_675 Fright_675 Fparent_675 Fred_675 rfl) hZ (own_w hw 125 rfl) (own_w hw 120 rfl) (by decide) (by decide)) (g := (mkF m 22 #[.val (.ref am), .val (.ref ap), .val (.ref ak), .val (.ref av)] [(.ref n2), (.ref av), (.ref ak), (.ref b675), (.ref b675), (.ref n1), (.ref am)])) rfl (by rw [hml]; rfl) (Steps.refl _) (a := b675) (argsL := [(.ref ak), (.ref av), (.ref n2)]) (rest := [(.ref b675), (.ref n1), (.ref am)]) (lenOf pd__Ljava_lang_Object_Ljava_lang_Object_Lgatherwick_maps_RedBlackTree_Node__V rfl) rfl (by show 2 * 0 + _ ≤ _; exact Nat.le_of_eq rfl) (hb hby d21_22) (fun _ _ => ⟨rfl, e677, (by decide : 1 + 0 ≤ _), (by decide : 6 + 0 ≤ _)⟩)
  dsimp only [Pt.U, Pt.locs, Pt.cells, Pt.slots] at X678 l678 y678 z678 st678 hQ678
  subst l678 y678 z678
  obtain ⟨h678, e678⟩ : ∃ h, T678.heap = h := ⟨_, rfl⟩
  rw [e678] at hQ678
  obtain ⟨rfl, Nq678, Kq678, b_key_678, b_value_678, b_left_678, b_right_678, b_parent_678, b_red_678⟩ := hQ678
  have N678 := Fr.app N673 Nq678
  have Z678 : n0 ≤ h678.size := Nat.le_trans Z675 Kq678.1
  have KK678 := KK675.trans Kq678 (allS (Or.inr sz_b675) all0)
  refine Go.trans st678 ?_
  show Go _ _ _ _ _ _ _ T678 (mkF m 25 #[.val (.ref am), .val (.ref ap), .val (.ref ak), .val (.ref av)] [(.ref b675), (.ref n1), (.ref am)])
  refine Go.step (fun _ k => XS.aloadN X678.here hx rfl (hb hby d21_25) rfl rfl k) ?_
  have f679 := ((P_l.ext E675).keep Kq678 (ninS ne_ap_b675 nin0))
  obtain ⟨T680, X680, e680, st680⟩ := getF X678 hx hZ hown (host := "") (Or.inl (own_w hw 140 rfl)) Via.refl e678 f679 (g := (mkF m 26 #[.val (.ref am), .val (.ref ap), .val (.ref ak), .val (.ref av)] [(.ref ap), (.ref b675), (.ref n1), (.ref am)])) rfl rfl (hb hby d21_26)
  refine Go.step st680 ?_
  show Go _ _ _ _ _ _ _ T680 (mkF m 29 #[.val (.ref am), .val (.ref ap), .val (.ref ak), .val (.ref av)] [(.int fl), (.ref b675), (.ref n1), (.ref am)])
  have f682 := (A675.keep Kq678)
  have f683 := ((E_n1.ext E675).keep Kq678)
  have f684 := ((E_n2.ext E675).keep Kq678)
  have f685 : own_W Z h678 d n1 n2 := ((W.ext E675).keep Kq678 (ninS ne_n1_b675 nin0) (ninS ne_n2_b675 nin0))
  obtain ⟨_, _, ⟨T681, L681, k681, n681⟩, -, X681, ⟨Lc681, hQ681, l681, y681, z681⟩, st681⟩ := Jvm.LawKit.callS X680 hx (y := (⟨"gatherwick/maps/RedBlackTree", "link", "(Lgatherwick/maps/RedBlackTree$Node;Lgatherwick/maps/RedBlackTree$Node;Z)Lgatherwick/maps/RedBlackTree$Node;"⟩ : MethodName)) hown (mvT hZ (own_w hw 142 rfl)) (mvT hZ (own_w hw 143 rfl)) (mvT hZ (own_w hw 144 rfl)) (mvT hZ (own_w hw 145 rfl)) (by decide) (backOf (W := 1) (rmKW l Z a0 hw [] n1 b675 fl n2 x1 d ak av h678 n0 Z678 f682 g_b675 (Ne.symm ne_n1_b675) (Ne.symm ne_n2_b675) b_key_678 b_value_678 b_left_678 b_right_678 b_parent_678 b_red_678 f683 g_n1 f684 g_n2 ne12 f685 hfl) hZ (own_w hw 145 rfl) (own_w hw 144 rfl) (by decide) (by decide)) (g := (mkF m 29 #[.val (.ref am), .val (.ref ap), .val (.ref ak), .val (.ref av)] [(.int fl), (.ref b675), (.ref n1), (.ref am)])) rfl (by rw [hml]; rfl) (argsL := [(.ref n1), (.ref b675), (.int fl)]) (rest := [(.ref am)]) (lenOf pd__Lgatherwick_maps_RedBlackTree_Node_Lgatherwick_maps_RedBlackTree_Node_Z_Lgatherwick_maps_RedBlackTree_Node_ rfl) rfl (by show 2 * 0 + _ ≤ _; exact Nat.le_of_eq rfl) (hb hby d21_29) (fun _ _ => ⟨rfl, e680, (by decide : 1 + 0 ≤ _), (by decide : 6 + 0 ≤ _)⟩)
  dsimp only [Pt.U, Pt.locs, Pt.cells, Pt.slots] at X681 l681 y681 z681 st681 hQ681
  subst l681 y681 z681
  obtain ⟨h681, e681⟩ : ∃ h, T681.heap = h := ⟨_, rfl⟩
  rw [e681] at hQ681
  have f686 := ((Em.ext E675).keep Kq678)
  have f687 := ((Ep.ext E675).keep Kq678)
  obtain ⟨nr_681, rfl, Nq681, Kq681⟩ := hQ681
  have N681 := Fr.app N678 Nq681
  have Z681 : n0 ≤ h681.size := Nat.le_trans Z678 Kq681.1
  have KK681 := KK678.trans Kq681 (allS (Or.inl (List.mem_of_getElem? (i := 1) rfl)) (allS (Or.inl (List.mem_of_getElem? (i := 2) rfl)) (allS (Or.inr sz_b675) all0)))
  refine Go.step st681 ?_
  show Go _ _ _ _ _ _ _ T681 (mkF m 32 #[.val (.ref am), .val (.ref ap), .val (.ref ak), .val (.ref av)] [(.ref nr_681), (.ref am)])
  have f688 := (f686.keep Kq681)
  have f689 := (f683.keep Kq681)
  have nx690 : am ≠ n1 := Exa.ne f688 f689 (by decide)
  have f691 := (f684.keep Kq681)
  have nx692 : am ≠ n2 := Exa.ne f688 f691 (by decide)
  have f693 := (((m_root.ext E675).keep Kq678 (ninS ne_am_b675 nin0)).keep Kq681 (ninS nx690 (ninS nx692 (ninS ne_am_b675 nin0))))
  obtain ⟨T694, h694, X694, e694, W694, st694⟩ := putF X681 hx hZ hown (host := "") (Or.inl (own_w hw 52 rfl)) Via.refl e681 f693 f688 (Or.inl (own_w hw 53 rfl)) (own_w hw 1 rfl) (ty := (.object "gatherwick/maps/RedBlackTree$Node")) (by decide) rfl rfl (g := (mkF m 32 #[.val (.ref am), .val (.ref ap), .val (.ref ak), .val (.ref av)] [(.ref nr_681), (.ref am)])) rfl rfl (hb hby d21_32)
  refine Go.step st694 ?_
  have Fw694 := f693.same W694
  have N694 := Fr.snoc X694 N681 gm
  have Z694 : n0 ≤ h694.size := Nat.le_trans Z681 (Keep.of_wr W694).1
  have KK694 := KK681.wr W694 (Or.inl (List.mem_of_getElem? (i := 0) rfl))
  show Go _ _ _ _ _ _ _ T694 (mkF m 35 #[.val (.ref am), .val (.ref ap), .val (.ref ak), .val (.ref av)] [])
  refine Go.step (fun _ k => XS.aloadN X694.here hx rfl (hb hby d21_35) rfl rfl k) ?_
  refine Go.step (fun _ k => XS.dup X694.here hx rfl (hb hby d21_36) rfl rfl k) ?_
  have f695 := ((((m_size.ext E675).keep Kq678 (ninS ne_am_b675 nin0)).keep Kq681 (ninS nx690 (ninS nx692 (ninS ne_am_b675 nin0)))).other W694 (Or.inr (slot_ne (a0 := a0) (C := "gatherwick/maps/GwTreeMap") (Or.inl (own_w hw 22 rfl)) (Or.inl (own_w hw 53 rfl)) (by decide) (t := .int) (t' := (.object "gatherwick/maps/RedBlackTree$Node")) (by decide) (by decide))))
  obtain ⟨T696, X696, e696, st696⟩ := getF X694 hx hZ hown (host := "") (Or.inl (own_w hw 21 rfl)) Via.refl e694 f695 (g := (mkF m 37 #[.val (.ref am), .val (.ref ap), .val (.ref ak), .val (.ref av)] [(.ref am), (.ref am)])) rfl rfl (hb hby d21_37)
  refine Go.step st696 ?_
  show Go _ _ _ _ _ _ _ T696 (mkF m 40 #[.val (.ref am), .val (.ref ap), .val (.ref ak), .val (.ref av)] [(.int sz), (.ref am)])
  refine Go.step (fun _ k => XS.iconst X696.here hx rfl (hb hby d21_40) k) ?_
  refine Go.step (fun _ k => XS.iadd X696.here hx rfl (hb hby d21_41) rfl k) ?_
  have f697 := (f688.wr W694)
  obtain ⟨T698, h698, X698, e698, W698, st698⟩ := putF X696 hx hZ hown (host := "") (Or.inl (own_w hw 21 rfl)) Via.refl e696 f695 f697 (Or.inl (own_w hw 22 rfl)) (own_w hw 1 rfl) (ty := .int) (by decide) rfl rfl (g := (mkF m 42 #[.val (.ref am), .val (.ref ap), .val (.ref ak), .val (.ref av)] [(.int (sz + (1 : Int32))), (.ref am)])) rfl rfl (hb hby d21_42)
  refine Go.step st698 ?_
  have Fw698 := f695.same W698
  have N698 := Fr.snoc X698 N694 gm
  have Z698 : n0 ≤ h698.size := Nat.le_trans Z694 (Keep.of_wr W698).1
  have KK698 := KK694.wr W698 (Or.inl (List.mem_of_getElem? (i := 0) rfl))
  show Go _ _ _ _ _ _ _ T698 (mkF m 45 #[.val (.ref am), .val (.ref ap), .val (.ref ak), .val (.ref av)] [])
  refine Go.step (fun _ k => XS.aloadN X698.here hx rfl (hb hby d21_45) rfl rfl k) ?_
  refine Go.step (fun _ k => XS.dup X698.here hx rfl (hb hby d21_46) rfl rfl k) ?_
  have f699 := (((((m_modCount.ext E675).keep Kq678 (ninS ne_am_b675 nin0)).keep Kq681 (ninS nx690 (ninS nx692 (ninS ne_am_b675 nin0)))).other W694 (Or.inr (slot_ne (a0 := a0) (C := "gatherwick/maps/GwTreeMap") (Or.inl (own_w hw 155 rfl)) (Or.inl (own_w hw 53 rfl)) (by decide) (t := .int) (t' := (.object "gatherwick/maps/RedBlackTree$Node")) (by decide) (by decide)))).other W698 (Or.inr (slot_ne (a0 := a0) (C := "gatherwick/maps/GwTreeMap") (Or.inl (own_w hw 155 rfl)) (Or.inl (own_w hw 22 rfl)) (by decide) (t := .int) (t' := .int) (by decide) (by decide))))
  obtain ⟨T700, X700, e700, st700⟩ := getF X698 hx hZ hown (host := "") (Or.inl (own_w hw 154 rfl)) Via.refl e698 f699 (g := (mkF m 47 #[.val (.ref am), .val (.ref ap), .val (.ref ak), .val (.ref av)] [(.ref am), (.ref am)])) rfl rfl (hb hby d21_47)
  refine Go.step st700 ?_
  show Go _ _ _ _ _ _ _ T700 (mkF m 50 #[.val (.ref am), .val (.ref ap), .val (.ref ak), .val (.ref av)] [(.int mc), (.ref am)])
  refine Go.step (fun _ k => XS.iconst X700.here hx rfl (hb hby d21_50) k) ?_
  refine Go.step (fun _ k => XS.iadd X700.here hx rfl (hb hby d21_51) rfl k) ?_
  have f701 := (f697.wr W698)
  obtain ⟨T702, h702, X702, e702, W702, st702⟩ := putF X700 hx hZ hown (host := "") (Or.inl (own_w hw 154 rfl)) Via.refl e700 f699 f701 (Or.inl (own_w hw 155 rfl)) (own_w hw 1 rfl) (ty := .int) (by decide) rfl rfl (g := (mkF m 52 #[.val (.ref am), .val (.ref ap), .val (.ref ak), .val (.ref av)] [(.int (mc + (1 : Int32))), (.ref am)])) rfl rfl (hb hby d21_52)
  refine Go.step st702 ?_
  have Fw702 := f699.same W702
  have N702 := Fr.snoc X702 N698 gm
  have Z702 : n0 ≤ h702.size := Nat.le_trans Z698 (Keep.of_wr W702).1
  have KK702 := KK698.wr W702 (Or.inl (List.mem_of_getElem? (i := 0) rfl))
  show Go _ _ _ _ _ _ _ T702 (mkF m 55 #[.val (.ref am), .val (.ref ap), .val (.ref ak), .val (.ref av)] [])
  have f703 := ((((((m_comparator.ext E675).keep Kq678 (ninS ne_am_b675 nin0)).keep Kq681 (ninS nx690 (ninS nx692 (ninS ne_am_b675 nin0)))).other W694 (Or.inr (slot_ne (a0 := a0) (C := "gatherwick/maps/GwTreeMap") (Or.inr (own_w hw 15 rfl)) (Or.inl (own_w hw 53 rfl)) (by decide) (t := (.object "java/util/Comparator")) (t' := (.object "gatherwick/maps/RedBlackTree$Node")) (by decide) (by decide)))).other W698 (Or.inr (slot_ne (a0 := a0) (C := "gatherwick/maps/GwTreeMap") (Or.inr (own_w hw 15 rfl)) (Or.inl (own_w hw 22 rfl)) (by decide) (t := (.object "java/util/Comparator")) (t' := .int) (by decide) (by decide)))).other W702 (Or.inr (slot_ne (a0 := a0) (C := "gatherwick/maps/GwTreeMap") (Or.inr (own_w hw 15 rfl)) (Or.inl (own_w hw 155 rfl)) (by decide) (t := (.object "java/util/Comparator")) (t' := .int) (by decide) (by decide))))
  have f704 := ((Fw694.other W698 (Or.inr (slot_ne (a0 := a0) (C := "gatherwick/maps/GwTreeMap") (Or.inl (own_w hw 53 rfl)) (Or.inl (own_w hw 22 rfl)) (by decide) (t := (.object "gatherwick/maps/RedBlackTree$Node")) (t' := .int) (by decide) (by decide)))).other W702 (Or.inr (slot_ne (a0 := a0) (C := "gatherwick/maps/GwTreeMap") (Or.inl (own_w hw 53 rfl)) (Or.inl (own_w hw 155 rfl)) (by decide) (t := (.object "gatherwick/maps/RedBlackTree$Node")) (t' := .int) (by decide) (by decide))))
  have f705 := (Fw698.other W702 (Or.inr (slot_ne (a0 := a0) (C := "gatherwick/maps/GwTreeMap") (Or.inl (own_w hw 22 rfl)) (Or.inl (own_w hw 155 rfl)) (by decide) (t := .int) (t' := .int) (by decide) (by decide))))
  exact Go.ret0 X702 hx hret hlk (hb hby d21_55) e702 (by decide) (by decide) ⟨nr_681, rfl, N702, KK702, f703, f704, f705, Fw702⟩
theorem ef_rmIW (m : MethodId) (am : Addr) (ak : Addr) (av : Addr) : entryFrame m #[(.ref am), .null, (.ref ak), (.ref av)] 5 = mkF m 0 #[.val (.ref am), .val .null, .val (.ref ak), .val (.ref av), .unset] [] := by first | (simp [entryFrame, mkF, argsToLocals, Value.category]; done) | rfl
def Q_rmIW (Z : State) (am : Addr) (ak : Addr) (av : Addr) (kv : Int32) (sz : Int32) (mc : Int32) (n1 : Addr) (n2 : Addr) (x1 : Addr) (fl : Int32) (d : Bool) (ky1 : Int32) (tl : List (Addr × Addr × Int32)) (h0 : Heap) (n0 : Nat) (v : Option Value) (h : Heap) (L : List Loc) : Prop := ∃ nr : Addr, (v = some .null) ∧ (Fr n0 L) ∧ (Keep h0 h [am, n1, n2]) ∧ (Fld Z h am "gatherwick/maps/GwTreeMap" "comparator" "Ljava/util/Comparator;" .null) ∧ (Fld Z h am "gatherwick/maps/GwTreeMap" "root" "Lgatherwick/maps/RedBlackTree$Node;" (.ref nr)) ∧ (Fld Z h am "gatherwick/maps/GwTreeMap" "size" "I" (.int (sz + (1 : Int32)))) ∧ (Fld Z h am "gatherwick/maps/GwTreeMap" "modCount" "I" (.int (mc + (1 : Int32))))
theorem rmIW (l : Launch) (Z : State) (a0 : Array Value) (hw : ∀ d ∈ tables_1, d.before a0 Z = true) (ws : List Jvm.Cond) (am : Addr) (ak : Addr) (av : Addr) (kv : Int32) (sz : Int32) (mc : Int32) (n1 : Addr) (n2 : Addr) (x1 : Addr) (fl : Int32) (d : Bool) (ky1 : Int32) (tl : List (Addr × Addr × Int32)) (h0 : Heap) (n0 : Nat) (Z0 : n0 ≤ h0.size) (Em : Exa Z h0 am "gatherwick/maps/GwTreeMap") (gm : n0 ≤ am) (m_comparator : Fld Z h0 am "gatherwick/maps/GwTreeMap" "comparator" "Ljava/util/Comparator;" .null) (m_root : Fld Z h0 am "gatherwick/maps/GwTreeMap" "root" "Lgatherwick/maps/RedBlackTree$Node;" (.ref n1)) (m_size : Fld Z h0 am "gatherwick/maps/GwTreeMap" "size" "I" (.int sz)) (m_modCount : Fld Z h0 am "gatherwick/maps/GwTreeMap" "modCount" "I" (.int mc)) (Ek : Exa Z h0 ak "java/lang/Integer") (Fk : Fld Z h0 ak "java/lang/Integer" "value" "I" (.int kv)) (HT : own_HT Z h0 kv ((n1, x1, ky1) :: tl)) (hn : own_sn kv ((n1, x1, ky1) :: tl) = .null) (hp : own_sp kv ((n1, x1, ky1) :: tl) .null = (.ref n2)) (hl : own_sl kv ((n1, x1, ky1) :: tl) 0 = fl) (hz : ¬ (sz = (2147483639 : Int32))) (E_n1 : Exa Z h0 n1 "gatherwick/maps/RedBlackTree$Node") (g_n1 : n0 ≤ n1) (E_n2 : Exa Z h0 n2 "gatherwick/maps/RedBlackTree$Node") (g_n2 : n0 ≤ n2) (ne12 : n1 ≠ n2) (W : own_W Z h0 d n1 n2) (hfl : fl = 0 ∨ fl = 1) :
    MetFree l (⟨"gatherwick/maps/GwTreeMap", "putIn", "(Lgatherwick/maps/GwTreeMap$SubMap;Ljava/lang/Object;Ljava/lang/Object;)Ljava/lang/Object;"⟩ : MethodName) (head1 (Jvm.Cond.code (⟨"gatherwick/maps/GwTreeMap", "putIn", "(Lgatherwick/maps/GwTreeMap$SubMap;Ljava/lang/Object;Ljava/lang/Object;)Ljava/lang/Object;"⟩ : MethodName) prog_46_method_69_code 5 (some (.object "java/lang/Object")) :: ws) ({ frames := 8, cells := 2, slots := 9, locals := 115 } : Room)) (fun aA U => aA = #[(.ref am), .null, (.ref ak), (.ref av)] ∧ Z.Warmed39 U.vm ∧ U.heap = h0) (fun _ _ _ _ _ => True) (fun _ U o U' => ∃ v L, o = .returned v ∧ Q_rmIW Z am ak av kv sz mc n1 n2 x1 fl d ky1 tl h0 n0 v U'.heap L ∧ FrameEnd U o U' L ({ frames := 8, cells := 2, slots := 9, locals := 115 } : Room).cells ({ frames := 8, cells := 2, slots := 9, locals := 115 } : Room).slots) := by
  refine MetFree.of_bodySF (plainFor_of_name pn_gatherwick_maps_GwTreeMap) hisR ?_
  intro p e s m args below meth c s₁ Bd hml0 hP hK
  obtain ⟨rfl, hZ, hh⟩ := hP
  have hx := Bd.exec
  have hby := Bd.bytes
  have hml : c.maxLocals = 5 := hml0
  have hown : s.vm.findClass "gatherwick/maps/GwTreeMap" = some m.cls := findClass_of_methodNamed Bd.named
  have hnm := (name_of_methodNamed Bd.named Bd.method).1
  have hret := Bd.returns
  have hlk : meth.locks = false := BodyLoose.notSynchronized Bd
  have X0 : Stand p l e ({ frames := 8, cells := 2, slots := 9, locals := 115 } : Room) s m #[(.ref am), .null, (.ref ak), (.ref av)] below meth c s₁ [] 0 0 := Stand.of_body Bd
  have e0 : s₁.heap = h0 := by rw [← hh, Bd.state]; rfl
  have N0 := Fr.nil n0
  suffices hgo : Go p e below s ({ frames := 8, cells := 2, slots := 9, locals := 115 } : Room).cells ({ frames := 8, cells := 2, slots := 9, locals := 115 } : Room).slots (Q_rmIW Z am ak av kv sz mc n1 n2 x1 fl d ky1 tl h0 n0) s₁ (mkF m 0 #[.val (.ref am), .val .null, .val (.ref ak), .val (.ref av), .unset] []) from hgo.enter (ef_rmIW m am ak av)
  refine Go.step (fun _ k => XS.aloadN X0.here hx rfl (hb hby d17_0) rfl rfl k) ?_
  refine Go.step (fun _ k => XS.aloadN X0.here hx rfl (hb hby d17_1) rfl rfl k) ?_
  refine Go.step (fun _ k => XS.aloadN X0.here hx rfl (hb hby d17_2) rfl rfl k) ?_
  obtain ⟨cq706, q706, q706'⟩ := Em.cell
  obtain ⟨_, _, ⟨T706, L706, k706, n706⟩, -, X706, ⟨Lc706, hQ706, l706, y706, z706⟩, st706⟩ := X0.privateBack hx (y := (⟨"gatherwick/maps/GwTreeMap", "locateToAdd", "(Lgatherwick/maps/GwTreeMap$SubMap;Ljava/lang/Object;)Lgatherwick/maps/GwTreeMap$Place;"⟩ : MethodName)) hown (mvT hZ (own_w hw 93 rfl)) (mvT hZ (own_w hw 94 rfl)) (own_selp (mvT hZ (own_w hw 1 rfl)) (Cond.privateMethod_at (mvP hZ (own_w hw 95 rfl) (args := #[]))) (mvT hZ (own_w hw 94 rfl)) (by decide)) (Cond.privateMethod_at (mvP hZ (own_w hw 95 rfl) (args := #[]))) (mvT hZ (own_w hw 96 rfl)) (by decide) (backOf (W := 0) (rmLa l Z a0 hw [] am ak kv ((n1, x1, ky1) :: tl) .null (.ref n2) fl h0 n0 Z0 Em m_comparator m_root Ek Fk HT rfl hn hp hl) hZ (own_w hw 96 rfl) (own_w hw 2 rfl) (by decide) (by decide)) (g := (mkF m 3 #[.val (.ref am), .val .null, .val (.ref ak), .val (.ref av), .unset] [(.ref ak), .null, (.ref am)])) rfl (by rw [hml]; rfl) (Steps.refl _) (a := am) (by rw [e0]; exact q706) q706' (argsL := [.null, (.ref ak)]) (rest := []) (lenOf pd__Lgatherwick_maps_GwTreeMap_SubMap_Ljava_lang_Object__Lgatherwick_maps_GwTreeMap_Place_ rfl) rfl (by show 2 * 0 + _ ≤ _; exact Nat.le_of_eq rfl) (hb hby d17_3) (fun _ _ => ⟨rfl, e0, (by decide : 0 + 1 ≤ _), (by decide : 0 + 3 ≤ _)⟩)
  dsimp only [Pt.U, Pt.locs, Pt.cells, Pt.slots] at X706 l706 y706 z706 st706 hQ706
  subst l706 y706 z706
  obtain ⟨h706, e706⟩ : ∃ h, T706.heap = h := ⟨_, rfl⟩
  rw [e706] at hQ706
  obtain ⟨ap_706, rfl, Nq706, Kq706, sz__706, Ep_706, Qn_706, Qp_706, Ql_706⟩ := hQ706
  have N706 := Fr.app N0 Nq706
  have Z706 : n0 ≤ h706.size := Nat.le_trans Z0 Kq706.1
  have KK706 := (Keep.refl h0 [am, n1, n2]).trans Kq706 all0
  have g_ap_706 : n0 ≤ ap_706 := Nat.le_trans Z0 sz__706
  have sz_ap_706 : h0.size ≤ ap_706 := Nat.le_trans (Keep.refl h0 [am, n1, n2]).1 sz__706
  have ne_ak_ap_706 : ak ≠ ap_706 := Nat.ne_of_lt (Nat.lt_of_lt_of_le Ek.lt sz__706)
  have ne_am_ap_706 : am ≠ ap_706 := Nat.ne_of_lt (Nat.lt_of_lt_of_le Em.lt sz__706)
  have ne_n1_ap_706 : n1 ≠ ap_706 := Nat.ne_of_lt (Nat.lt_of_lt_of_le E_n1.lt sz__706)
  have ne_n2_ap_706 : n2 ≠ ap_706 := Nat.ne_of_lt (Nat.lt_of_lt_of_le E_n2.lt sz__706)
  refine Go.trans st706 ?_
  show Go _ _ _ _ _ _ _ T706 (mkF m 6 #[.val (.ref am), .val .null, .val (.ref ak), .val (.ref av), .unset] [(.ref ap_706)])
  refine Go.step (fun _ k => XS.astore X706.here hx rfl (hb hby d17_6) rfl rfl (l' := #[.val (.ref am), .val .null, .val (.ref ak), .val (.ref av), .val (.ref ap_706)]) rfl k) ?_
  show Go _ _ _ _ _ _ _ T706 (mkF m 8 #[.val (.ref am), .val .null, .val (.ref ak), .val (.ref av), .val (.ref ap_706)] [])
  refine Go.step (fun _ k => XS.aload X706.here hx rfl (hb hby d17_8) rfl rfl k) ?_
  obtain ⟨T707, X707, e707, st707⟩ := getF X706 hx hZ hown (host := "") (Or.inl (own_w hw 108 rfl)) Via.refl e706 Qn_706 (g := (mkF m 10 #[.val (.ref am), .val .null, .val (.ref ak), .val (.ref av), .val (.ref ap_706)] [(.ref ap_706)])) rfl rfl (hb hby d17_10)
  refine Go.step st707 ?_
  show Go _ _ _ _ _ _ _ T707 (mkF m 13 #[.val (.ref am), .val .null, .val (.ref ak), .val (.ref av), .val (.ref ap_706)] [.null])
  refine Go.step (fun _ k => XS.ifnullYes X707.here hx rfl (pc0 := 13) (pc' := 26) rfl (hb hby d17_13) rfl (by decide) (by decide) k) ?_
  show Go _ _ _ _ _ _ _ T707 (mkF m 26 #[.val (.ref am), .val .null, .val (.ref ak), .val (.ref av), .val (.ref ap_706)] [])
  refine Go.step (fun _ k => XS.aloadN X707.here hx rfl (hb hby d17_26) rfl rfl k) ?_
  refine Go.step (fun _ k => XS.aload X707.here hx rfl (hb hby d17_27) rfl rfl k) ?_
  refine Go.step (fun _ k => XS.aloadN X707.here hx rfl (hb hby d17_29) rfl rfl k) ?_
  refine Go.step (fun _ k => XS.aloadN X707.here hx rfl (hb hby d17_30) rfl rfl k) ?_
  have f709 := (Em.keep Kq706)
  have f710 := (m_comparator.keep Kq706 nin0)
  have f711 := (m_root.keep Kq706 nin0)
  have f712 := (m_size.keep Kq706 nin0)
  have f713 := (m_modCount.keep Kq706 nin0)
  have f714 := (E_n1.keep Kq706)
  have f715 := (E_n2.keep Kq706)
  have f716 : own_W Z h706 d n1 n2 := (W.keep Kq706 nin0 nin0)
  obtain ⟨cq708, q708, q708'⟩ := f709.cell
  obtain ⟨_, _, ⟨T708, L708, k708, n708⟩, -, X708, ⟨Lc708, hQ708, l708, y708, z708⟩, st708⟩ := X707.privateBack hx (y := (⟨"gatherwick/maps/GwTreeMap", "link", "(Lgatherwick/maps/GwTreeMap$Place;Ljava/lang/Object;Ljava/lang/Object;)V"⟩ : MethodName)) hown (mvT hZ (own_w hw 110 rfl)) (mvT hZ (own_w hw 111 rfl)) (own_selp (mvT hZ (own_w hw 1 rfl)) (Cond.privateMethod_at (mvP hZ (own_w hw 112 rfl) (args := #[]))) (mvT hZ (own_w hw 111 rfl)) (by decide)) (Cond.privateMethod_at (mvP hZ (own_w hw 112 rfl) (args := #[]))) (mvT hZ (own_w hw 113 rfl)) (by decide) (backOf (W := 0) (rmMW l Z a0 hw [] am ap_706 ak av sz mc n1 n2 x1 fl d h706 n0 Z706 f709 gm f710 f711 f712 f713 Ep_706 Qp_706 Ql_706 hz f714 g_n1 f715 g_n2 ne12 f716 hfl) hZ (own_w hw 113 rfl) (own_w hw 2 rfl) (by decide) (by decide)) (g := (mkF m 31 #[.val (.ref am), .val .null, .val (.ref ak), .val (.ref av), .val (.ref ap_706)] [(.ref av), (.ref ak), (.ref ap_706), (.ref am)])) rfl (by rw [hml]; rfl) (Steps.refl _) (a := am) (by rw [e707]; exact q708) q708' (argsL := [(.ref ap_706), (.ref ak), (.ref av)]) (rest := []) (lenOf pd__Lgatherwick_maps_GwTreeMap_Place_Ljava_lang_Object_Ljava_lang_Object__V rfl) rfl (by show 2 * 0 + _ ≤ _; exact Nat.le_of_eq rfl) (hb hby d17_31) (fun _ _ => ⟨rfl, e707, (by decide : 1 + 1 ≤ _), (by decide : 3 + 6 ≤ _)⟩)
  dsimp only [Pt.U, Pt.locs, Pt.cells, Pt.slots] at X708 l708 y708 z708 st708 hQ708
  subst l708 y708 z708
  obtain ⟨h708, e708⟩ : ∃ h, T708.heap = h := ⟨_, rfl⟩
  rw [e708] at hQ708
  have f717 := (Ek.keep Kq706)
  obtain ⟨nr_708, rfl, Nq708, Kq708, q_comparator_708, q_root_708, q_size_708, q_modCount_708⟩ := hQ708
  have N708 := Fr.app N706 Nq708
  have Z708 : n0 ≤ h708.size := Nat.le_trans Z706 Kq708.1
  have KK708 := KK706.trans Kq708 (allS (Or.inl (List.mem_of_getElem? (i := 0) rfl)) (allS (Or.inl (List.mem_of_getElem? (i := 1) rfl)) (allS (Or.inl (List.mem_of_getElem? (i := 2) rfl)) all0)))
  refine Go.trans st708 ?_
  show Go _ _ _ _ _ _ _ T708 (mkF m 34 #[.val (.ref am), .val .null, .val (.ref ak), .val (.ref av), .val (.ref ap_706)] [])
  refine Go.step (fun _ k => XS.aconstNull X708.here hx rfl (hb hby d17_34) k) ?_
  exact Go.retA X708 hx hret hlk rfl rfl (hb hby d17_35) e708 (by decide) (by decide) ⟨nr_708, rfl, N708, KK708, q_comparator_708, q_root_708, q_size_708, q_modCount_708⟩
theorem ef_rmUW (m : MethodId) (am : Addr) (ak : Addr) (av : Addr) : entryFrame m #[(.ref am), (.ref ak), (.ref av)] 3 = mkF m 0 #[.val (.ref am), .val (.ref ak), .val (.ref av)] [] := by first | (simp [entryFrame, mkF, argsToLocals, Value.category]; done) | rfl
def Q_rmUW (Z : State) (am : Addr) (ak : Addr) (av : Addr) (kv : Int32) (sz : Int32) (mc : Int32) (n1 : Addr) (n2 : Addr) (x1 : Addr) (fl : Int32) (d : Bool) (ky1 : Int32) (tl : List (Addr × Addr × Int32)) (h0 : Heap) (n0 : Nat) (v : Option Value) (h : Heap) (L : List Loc) : Prop := ∃ nr : Addr, (v = some .null) ∧ (Fr n0 L) ∧ (Keep h0 h [am, n1, n2]) ∧ (Fld Z h am "gatherwick/maps/GwTreeMap" "comparator" "Ljava/util/Comparator;" .null) ∧ (Fld Z h am "gatherwick/maps/GwTreeMap" "root" "Lgatherwick/maps/RedBlackTree$Node;" (.ref nr)) ∧ (Fld Z h am "gatherwick/maps/GwTreeMap" "size" "I" (.int (sz + (1 : Int32)))) ∧ (Fld Z h am "gatherwick/maps/GwTreeMap" "modCount" "I" (.int (mc + (1 : Int32))))
theorem rmUW (l : Launch) (Z : State) (a0 : Array Value) (hw : ∀ d ∈ tables_1, d.before a0 Z = true) (ws : List Jvm.Cond) (am : Addr) (ak : Addr) (av : Addr) (kv : Int32) (sz : Int32) (mc : Int32) (n1 : Addr) (n2 : Addr) (x1 : Addr) (fl : Int32) (d : Bool) (ky1 : Int32) (tl : List (Addr × Addr × Int32)) (h0 : Heap) (n0 : Nat) (Z0 : n0 ≤ h0.size) (Em : Exa Z h0 am "gatherwick/maps/GwTreeMap") (gm : n0 ≤ am) (m_comparator : Fld Z h0 am "gatherwick/maps/GwTreeMap" "comparator" "Ljava/util/Comparator;" .null) (m_root : Fld Z h0 am "gatherwick/maps/GwTreeMap" "root" "Lgatherwick/maps/RedBlackTree$Node;" (.ref n1)) (m_size : Fld Z h0 am "gatherwick/maps/GwTreeMap" "size" "I" (.int sz)) (m_modCount : Fld Z h0 am "gatherwick/maps/GwTreeMap" "modCount" "I" (.int mc)) (Ek : Exa Z h0 ak "java/lang/Integer") (Fk : Fld Z h0 ak "java/lang/Integer" "value" "I" (.int kv)) (HT : own_HT Z h0 kv ((n1, x1, ky1) :: tl)) (hn : own_sn kv ((n1, x1, ky1) :: tl) = .null) (hp : own_sp kv ((n1, x1, ky1) :: tl) .null = (.ref n2)) (hl : own_sl kv ((n1, x1, ky1) :: tl) 0 = fl) (hz : ¬ (sz = (2147483639 : Int32))) (E_n1 : Exa Z h0 n1 "gatherwick/maps/RedBlackTree$Node") (g_n1 : n0 ≤ n1) (E_n2 : Exa Z h0 n2 "gatherwick/maps/RedBlackTree$Node") (g_n2 : n0 ≤ n2) (ne12 : n1 ≠ n2) (W : own_W Z h0 d n1 n2) (hfl : fl = 0 ∨ fl = 1) :
    MetFree l (⟨"gatherwick/maps/GwTreeMap", "put", "(Ljava/lang/Object;Ljava/lang/Object;)Ljava/lang/Object;"⟩ : MethodName) (head1 (Jvm.Cond.code (⟨"gatherwick/maps/GwTreeMap", "put", "(Ljava/lang/Object;Ljava/lang/Object;)Ljava/lang/Object;"⟩ : MethodName) prog_46_method_16_code 3 (some (.object "java/lang/Object")) :: ws) ({ frames := 9, cells := 2, slots := 9, locals := 131 } : Room)) (fun aA U => aA = #[(.ref am), (.ref ak), (.ref av)] ∧ Z.Warmed39 U.vm ∧ U.heap = h0) (fun _ _ _ _ _ => True) (fun _ U o U' => ∃ v L, o = .returned v ∧ Q_rmUW Z am ak av kv sz mc n1 n2 x1 fl d ky1 tl h0 n0 v U'.heap L ∧ FrameEnd U o U' L ({ frames := 9, cells := 2, slots := 9, locals := 131 } : Room).cells ({ frames := 9, cells := 2, slots := 9, locals := 131 } : Room).slots) := by
  refine MetFree.of_bodySF (plainFor_of_name pn_gatherwick_maps_GwTreeMap) hisR ?_
  intro p e s m args below meth c s₁ Bd hml0 hP hK
  obtain ⟨rfl, hZ, hh⟩ := hP
  have hx := Bd.exec
  have hby := Bd.bytes
  have hml : c.maxLocals = 3 := hml0
  have hown : s.vm.findClass "gatherwick/maps/GwTreeMap" = some m.cls := findClass_of_methodNamed Bd.named
  have hnm := (name_of_methodNamed Bd.named Bd.method).1
  have hret := Bd.returns
  have hlk : meth.locks = false := BodyLoose.notSynchronized Bd
  have X0 : Stand p l e ({ frames := 9, cells := 2, slots := 9, locals := 131 } : Room) s m #[(.ref am), (.ref ak), (.ref av)] below meth c s₁ [] 0 0 := Stand.of_body Bd
  have e0 : s₁.heap = h0 := by rw [← hh, Bd.state]; rfl
  have N0 := Fr.nil n0
  suffices hgo : Go p e below s ({ frames := 9, cells := 2, slots := 9, locals := 131 } : Room).cells ({ frames := 9, cells := 2, slots := 9, locals := 131 } : Room).slots (Q_rmUW Z am ak av kv sz mc n1 n2 x1 fl d ky1 tl h0 n0) s₁ (mkF m 0 #[.val (.ref am), .val (.ref ak), .val (.ref av)] []) from hgo.enter (ef_rmUW m am ak av)
  refine Go.step (fun _ k => XS.aloadN X0.here hx rfl (hb hby d16_0) rfl rfl k) ?_
  refine Go.step (fun _ k => XS.aconstNull X0.here hx rfl (hb hby d16_1) k) ?_
  refine Go.step (fun _ k => XS.aloadN X0.here hx rfl (hb hby d16_2) rfl rfl k) ?_
  refine Go.step (fun _ k => XS.aloadN X0.here hx rfl (hb hby d16_3) rfl rfl k) ?_
  obtain ⟨cq718, q718, q718'⟩ := Em.cell
  obtain ⟨_, _, ⟨T718, L718, k718, n718⟩, -, X718, ⟨Lc718, hQ718, l718, y718, z718⟩, st718⟩ := X0.privateBack hx (y := (⟨"gatherwick/maps/GwTreeMap", "putIn", "(Lgatherwick/maps/GwTreeMap$SubMap;Ljava/lang/Object;Ljava/lang/Object;)Ljava/lang/Object;"⟩ : MethodName)) hown (mvT hZ (own_w hw 89 rfl)) (mvT hZ (own_w hw 90 rfl)) (own_selp (mvT hZ (own_w hw 1 rfl)) (Cond.privateMethod_at (mvP hZ (own_w hw 91 rfl) (args := #[]))) (mvT hZ (own_w hw 90 rfl)) (by decide)) (Cond.privateMethod_at (mvP hZ (own_w hw 91 rfl) (args := #[]))) (mvT hZ (own_w hw 92 rfl)) (by decide) (backOf (W := 0) (rmIW l Z a0 hw [] am ak av kv sz mc n1 n2 x1 fl d ky1 tl h0 n0 Z0 Em gm m_comparator m_root m_size m_modCount Ek Fk HT hn hp hl hz E_n1 g_n1 E_n2 g_n2 ne12 W hfl) hZ (own_w hw 92 rfl) (own_w hw 2 rfl) (by decide) (by decide)) (g := (mkF m 4 #[.val (.ref am), .val (.ref ak), .val (.ref av)] [(.ref av), (.ref ak), .null, (.ref am)])) rfl (by rw [hml]; rfl) (Steps.refl _) (a := am) (by rw [e0]; exact q718) q718' (argsL := [.null, (.ref ak), (.ref av)]) (rest := []) (lenOf pd__Lgatherwick_maps_GwTreeMap_SubMap_Ljava_lang_Object_Ljava_lang_Object__Ljava_lang_Object_ rfl) rfl (by show 2 * 0 + _ ≤ _; exact Nat.le_of_eq rfl) (hb hby d16_4) (fun _ _ => ⟨rfl, e0, (by decide : 0 + 2 ≤ _), (by decide : 0 + 9 ≤ _)⟩)
  dsimp only [Pt.U, Pt.locs, Pt.cells, Pt.slots] at X718 l718 y718 z718 st718 hQ718
  subst l718 y718 z718
  obtain ⟨h718, e718⟩ : ∃ h, T718.heap = h := ⟨_, rfl⟩
  rw [e718] at hQ718
  obtain ⟨nr_718, rfl, Nq718, Kq718, q_comparator_718, q_root_718, q_size_718, q_modCount_718⟩ := hQ718
  have N718 := Fr.app N0 Nq718
  have Z718 : n0 ≤ h718.size := Nat.le_trans Z0 Kq718.1
  have KK718 := (Keep.refl h0 [am, n1, n2]).trans Kq718 (allS (Or.inl (List.mem_of_getElem? (i := 0) rfl)) (allS (Or.inl (List.mem_of_getElem? (i := 1) rfl)) (allS (Or.inl (List.mem_of_getElem? (i := 2) rfl)) all0)))
  refine Go.trans st718 ?_
  show Go _ _ _ _ _ _ _ T718 (mkF m 7 #[.val (.ref am), .val (.ref ak), .val (.ref av)] [.null])
  exact Go.retA X718 hx hret hlk rfl rfl (hb hby d16_7) e718 (by decide) (by decide) ⟨nr_718, rfl, N718, KK718, q_comparator_718, q_root_718, q_size_718, q_modCount_718⟩
theorem d34_0 : decode prog_59_method_4_code 0 = .ok (.aload_n 0, 1) := by decide +kernel
theorem d34_1 : decode prog_59_method_4_code 1 = .ok (.getfield 17, 3) := by decide +kernel
theorem d34_4 : decode prog_59_method_4_code 4 = .ok (.astore_n 2, 1) := by decide +kernel
theorem d34_5 : decode prog_59_method_4_code 5 = .ok (.aload_n 0, 1) := by decide +kernel
theorem d34_6 : decode prog_59_method_4_code 6 = .ok (.aload_n 1, 1) := by decide +kernel
theorem d34_7 : decode prog_59_method_4_code 7 = .ok (.putfield 17, 3) := by decide +kernel
theorem d34_10 : decode prog_59_method_4_code 10 = .ok (.aload_n 2, 1) := by decide +kernel
theorem d34_11 : decode prog_59_method_4_code 11 = .ok (.areturn, 1) := by decide +kernel
theorem ef_rmSv (m : MethodId) (an : Addr) (av : Addr) : entryFrame m #[(.ref an), (.ref av)] 3 = mkF m 0 #[.val (.ref an), .val (.ref av), .unset] [] := by first | (simp [entryFrame, mkF, argsToLocals, Value.category]; done) | rfl
def Q_rmSv (Z : State) (an : Addr) (av : Addr) (xk : Addr) (xv : Addr) (vl1 : Value) (vr1 : Value) (vp1 : Value) (rx : Int32) (h0 : Heap) (n0 : Nat) (v : Option Value) (h : Heap) (L : List Loc) : Prop := (v = some (.ref xv)) ∧ (Fr n0 L) ∧ (Keep h0 h [an]) ∧ (Fld Z h an "gatherwick/maps/RedBlackTree$Node" "key" "Ljava/lang/Object;" (.ref xk)) ∧ (Fld Z h an "gatherwick/maps/RedBlackTree$Node" "value" "Ljava/lang/Object;" (.ref av)) ∧ (Fld Z h an "gatherwick/maps/RedBlackTree$Node" "left" "Lgatherwick/maps/RedBlackTree$Node;" vl1) ∧ (Fld Z h an "gatherwick/maps/RedBlackTree$Node" "right" "Lgatherwick/maps/RedBlackTree$Node;" vr1) ∧ (Fld Z h an "gatherwick/maps/RedBlackTree$Node" "parent" "Lgatherwick/maps/RedBlackTree$Node;" vp1) ∧ (Fld Z h an "gatherwick/maps/RedBlackTree$Node" "red" "Z" (.int rx))
theorem rmSv (l : Launch) (Z : State) (a0 : Array Value) (hw : ∀ d ∈ tables_1, d.before a0 Z = true) (ws : List Jvm.Cond) (an : Addr) (av : Addr) (xk : Addr) (xv : Addr) (vl1 : Value) (vr1 : Value) (vp1 : Value) (rx : Int32) (h0 : Heap) (n0 : Nat) (Z0 : n0 ≤ h0.size) (E_an : Exa Z h0 an "gatherwick/maps/RedBlackTree$Node") (g_an : n0 ≤ an) (a_key : Fld Z h0 an "gatherwick/maps/RedBlackTree$Node" "key" "Ljava/lang/Object;" (.ref xk)) (a_value : Fld Z h0 an "gatherwick/maps/RedBlackTree$Node" "value" "Ljava/lang/Object;" (.ref xv)) (a_left : Fld Z h0 an "gatherwick/maps/RedBlackTree$Node" "left" "Lgatherwick/maps/RedBlackTree$Node;" vl1) (a_right : Fld Z h0 an "gatherwick/maps/RedBlackTree$Node" "right" "Lgatherwick/maps/RedBlackTree$Node;" vr1) (a_parent : Fld Z h0 an "gatherwick/maps/RedBlackTree$Node" "parent" "Lgatherwick/maps/RedBlackTree$Node;" vp1) (a_red : Fld Z h0 an "gatherwick/maps/RedBlackTree$Node" "red" "Z" (.int rx)) :
    MetFree l (⟨"gatherwick/maps/RedBlackTree$Node", "setValue", "(Ljava/lang/Object;)Ljava/lang/Object;"⟩ : MethodName) (head1 (Jvm.Cond.code (⟨"gatherwick/maps/RedBlackTree$Node", "setValue", "(Ljava/lang/Object;)Ljava/lang/Object;"⟩ : MethodName) prog_59_method_4_code 3 (some (.object "java/lang/Object")) :: ws) ({ frames := 0, cells := 0, slots := 0, locals := 0 } : Room)) (fun aA U => aA = #[(.ref an), (.ref av)] ∧ Z.Warmed39 U.vm ∧ U.heap = h0) (fun _ _ _ _ _ => True) (fun _ U o U' => ∃ v L, o = .returned v ∧ Q_rmSv Z an av xk xv vl1 vr1 vp1 rx h0 n0 v U'.heap L ∧ FrameEnd U o U' L ({ frames := 0, cells := 0, slots := 0, locals := 0 } : Room).cells ({ frames := 0, cells := 0, slots := 0, locals := 0 } : Room).slots) := by
  refine MetFree.of_bodySF (plainFor_of_name pn_gatherwick_maps_RedBlackTree_Node) hisR ?_
  intro p e s m args below meth c s₁ Bd hml0 hP hK
  obtain ⟨rfl, hZ, hh⟩ := hP
  have hx := Bd.exec
  have hby := Bd.bytes
  have hml : c.maxLocals = 3 := hml0
  have hown : s.vm.findClass "gatherwick/maps/RedBlackTree$Node" = some m.cls := findClass_of_methodNamed Bd.named
  have hnm := (name_of_methodNamed Bd.named Bd.method).1
  have hret := Bd.returns
  have hlk : meth.locks = false := BodyLoose.notSynchronized Bd
  have X0 : Stand p l e ({ frames := 0, cells := 0, slots := 0, locals := 0 } : Room) s m #[(.ref an), (.ref av)] below meth c s₁ [] 0 0 := Stand.of_body Bd
  have e0 : s₁.heap = h0 := by rw [← hh, Bd.state]; rfl
  have N0 := Fr.nil n0
  suffices hgo : Go p e below s ({ frames := 0, cells := 0, slots := 0, locals := 0 } : Room).cells ({ frames := 0, cells := 0, slots := 0, locals := 0 } : Room).slots (Q_rmSv Z an av xk xv vl1 vr1 vp1 rx h0 n0) s₁ (mkF m 0 #[.val (.ref an), .val (.ref av), .unset] []) from hgo.enter (ef_rmSv m an av)
  refine Go.step (fun _ k => XS.aloadN X0.here hx rfl (hb hby d34_0) rfl rfl k) ?_
  obtain ⟨T719, X719, e719, st719⟩ := getF X0 hx hZ hown (host := "") (Or.inl (own_w hw 136 rfl)) Via.refl e0 a_value (g := (mkF m 1 #[.val (.ref an), .val (.ref av), .unset] [(.ref an)])) rfl rfl (hb hby d34_1)
  refine Go.step st719 ?_
  show Go _ _ _ _ _ _ _ T719 (mkF m 4 #[.val (.ref an), .val (.ref av), .unset] [(.ref xv)])
  refine Go.step (fun _ k => XS.astoreN X719.here hx rfl (hb hby d34_4) rfl rfl (l' := #[.val (.ref an), .val (.ref av), .val (.ref xv)]) rfl k) ?_
  show Go _ _ _ _ _ _ _ T719 (mkF m 5 #[.val (.ref an), .val (.ref av), .val (.ref xv)] [])
  refine Go.step (fun _ k => XS.aloadN X719.here hx rfl (hb hby d34_5) rfl rfl k) ?_
  refine Go.step (fun _ k => XS.aloadN X719.here hx rfl (hb hby d34_6) rfl rfl k) ?_
  obtain ⟨T720, h720, X720, e720, W720, st720⟩ := putF X719 hx hZ hown (host := "") (Or.inl (own_w hw 136 rfl)) Via.refl e719 a_value E_an (Or.inl (own_w hw 137 rfl)) (own_w hw 119 rfl) (ty := (.object "java/lang/Object")) (by decide) rfl rfl (g := (mkF m 7 #[.val (.ref an), .val (.ref av), .val (.ref xv)] [(.ref av), (.ref an)])) rfl rfl (hb hby d34_7)
  refine Go.step st720 ?_
  have Fw720 := a_value.same W720
  have N720 := Fr.snoc X720 N0 g_an
  have Z720 : n0 ≤ h720.size := Nat.le_trans Z0 (Keep.of_wr W720).1
  have KK720 := (Keep.refl h0 [an]).wr W720 (Or.inl (List.mem_of_getElem? (i := 0) rfl))
  show Go _ _ _ _ _ _ _ T720 (mkF m 10 #[.val (.ref an), .val (.ref av), .val (.ref xv)] [])
  refine Go.step (fun _ k => XS.aloadN X720.here hx rfl (hb hby d34_10) rfl rfl k) ?_
  have f721 := (a_key.other W720 (Or.inr (slot_ne (a0 := a0) (C := "gatherwick/maps/RedBlackTree$Node") (Or.inr (own_w hw 135 rfl)) (Or.inl (own_w hw 137 rfl)) (by decide) (t := (.object "java/lang/Object")) (t' := (.object "java/lang/Object")) (by decide) (by decide))))
  have f722 := (a_left.other W720 (Or.inr (slot_ne (a0 := a0) (C := "gatherwick/maps/RedBlackTree$Node") (Or.inl (own_w hw 179 rfl)) (Or.inl (own_w hw 137 rfl)) (by decide) (t := (.object "gatherwick/maps/RedBlackTree$Node")) (t' := (.object "java/lang/Object")) (by decide) (by decide))))
  have f723 := (a_right.other W720 (Or.inr (slot_ne (a0 := a0) (C := "gatherwick/maps/RedBlackTree$Node") (Or.inl (own_w hw 176 rfl)) (Or.inl (own_w hw 137 rfl)) (by decide) (t := (.object "gatherwick/maps/RedBlackTree$Node")) (t' := (.object "java/lang/Object")) (by decide) (by decide))))
  have f724 := (a_parent.other W720 (Or.inr (slot_ne (a0 := a0) (C := "gatherwick/maps/RedBlackTree$Node") (Or.inl (own_w hw 139 rfl)) (Or.inl (own_w hw 137 rfl)) (by decide) (t := (.object "gatherwick/maps/RedBlackTree$Node")) (t' := (.object "java/lang/Object")) (by decide) (by decide))))
  have f725 := (a_red.other W720 (Or.inr (slot_ne (a0 := a0) (C := "gatherwick/maps/RedBlackTree$Node") (Or.inl (own_w hw 133 rfl)) (Or.inl (own_w hw 137 rfl)) (by decide) (t := .boolean) (t' := (.object "java/lang/Object")) (by decide) (by decide))))
  exact Go.retA X720 hx hret hlk rfl rfl (hb hby d34_11) e720 (by decide) (by decide) ⟨rfl, N720, KK720, f721, Fw720, f722, f723, f724, f725⟩
theorem ef_rmIE (m : MethodId) (am : Addr) (ak : Addr) (av : Addr) : entryFrame m #[(.ref am), .null, (.ref ak), (.ref av)] 5 = mkF m 0 #[.val (.ref am), .val .null, .val (.ref ak), .val (.ref av), .unset] [] := by first | (simp [entryFrame, mkF, argsToLocals, Value.category]; done) | rfl
def Q_rmIE (Z : State) (am : Addr) (ak : Addr) (av : Addr) (kv : Int32) (tr : List (Addr × Addr × Int32)) (an : Addr) (xk : Addr) (xv : Addr) (vl1 : Value) (vr1 : Value) (vp1 : Value) (rx : Int32) (h0 : Heap) (n0 : Nat) (v : Option Value) (h : Heap) (L : List Loc) : Prop := (v = some (.ref xv)) ∧ (Fr n0 L) ∧ (Keep h0 h [an]) ∧ (Fld Z h an "gatherwick/maps/RedBlackTree$Node" "key" "Ljava/lang/Object;" (.ref xk)) ∧ (Fld Z h an "gatherwick/maps/RedBlackTree$Node" "value" "Ljava/lang/Object;" (.ref av)) ∧ (Fld Z h an "gatherwick/maps/RedBlackTree$Node" "left" "Lgatherwick/maps/RedBlackTree$Node;" vl1) ∧ (Fld Z h an "gatherwick/maps/RedBlackTree$Node" "right" "Lgatherwick/maps/RedBlackTree$Node;" vr1) ∧ (Fld Z h an "gatherwick/maps/RedBlackTree$Node" "parent" "Lgatherwick/maps/RedBlackTree$Node;" vp1) ∧ (Fld Z h an "gatherwick/maps/RedBlackTree$Node" "red" "Z" (.int rx))
theorem rmIE (l : Launch) (Z : State) (a0 : Array Value) (hw : ∀ d ∈ tables_1, d.before a0 Z = true) (ws : List Jvm.Cond) (am : Addr) (ak : Addr) (av : Addr) (kv : Int32) (tr : List (Addr × Addr × Int32)) (an : Addr) (xk : Addr) (xv : Addr) (vl1 : Value) (vr1 : Value) (vp1 : Value) (rx : Int32) (h0 : Heap) (n0 : Nat) (Z0 : n0 ≤ h0.size) (Em : Exa Z h0 am "gatherwick/maps/GwTreeMap") (Fc : Fld Z h0 am "gatherwick/maps/GwTreeMap" "comparator" "Ljava/util/Comparator;" .null) (Frt : Fld Z h0 am "gatherwick/maps/GwTreeMap" "root" "Lgatherwick/maps/RedBlackTree$Node;" (own_val tr)) (Ek : Exa Z h0 ak "java/lang/Integer") (Fk : Fld Z h0 ak "java/lang/Integer" "value" "I" (.int kv)) (HT : own_HT Z h0 kv tr) (hn : own_sn kv tr = (.ref an)) (E_an : Exa Z h0 an "gatherwick/maps/RedBlackTree$Node") (g_an : n0 ≤ an) (a_key : Fld Z h0 an "gatherwick/maps/RedBlackTree$Node" "key" "Ljava/lang/Object;" (.ref xk)) (a_value : Fld Z h0 an "gatherwick/maps/RedBlackTree$Node" "value" "Ljava/lang/Object;" (.ref xv)) (a_left : Fld Z h0 an "gatherwick/maps/RedBlackTree$Node" "left" "Lgatherwick/maps/RedBlackTree$Node;" vl1) (a_right : Fld Z h0 an "gatherwick/maps/RedBlackTree$Node" "right" "Lgatherwick/maps/RedBlackTree$Node;" vr1) (a_parent : Fld Z h0 an "gatherwick/maps/RedBlackTree$Node" "parent" "Lgatherwick/maps/RedBlackTree$Node;" vp1) (a_red : Fld Z h0 an "gatherwick/maps/RedBlackTree$Node" "red" "Z" (.int rx)) :
    MetFree l (⟨"gatherwick/maps/GwTreeMap", "putIn", "(Lgatherwick/maps/GwTreeMap$SubMap;Ljava/lang/Object;Ljava/lang/Object;)Ljava/lang/Object;"⟩ : MethodName) (head1 (Jvm.Cond.code (⟨"gatherwick/maps/GwTreeMap", "putIn", "(Lgatherwick/maps/GwTreeMap$SubMap;Ljava/lang/Object;Ljava/lang/Object;)Ljava/lang/Object;"⟩ : MethodName) prog_46_method_69_code 5 (some (.object "java/lang/Object")) :: ws) ({ frames := 8, cells := 1, slots := 3, locals := 115 } : Room)) (fun aA U => aA = #[(.ref am), .null, (.ref ak), (.ref av)] ∧ Z.Warmed39 U.vm ∧ U.heap = h0) (fun _ _ _ _ _ => True) (fun _ U o U' => ∃ v L, o = .returned v ∧ Q_rmIE Z am ak av kv tr an xk xv vl1 vr1 vp1 rx h0 n0 v U'.heap L ∧ FrameEnd U o U' L ({ frames := 8, cells := 1, slots := 3, locals := 115 } : Room).cells ({ frames := 8, cells := 1, slots := 3, locals := 115 } : Room).slots) := by
  refine MetFree.of_bodySF (plainFor_of_name pn_gatherwick_maps_GwTreeMap) hisR ?_
  intro p e s m args below meth c s₁ Bd hml0 hP hK
  obtain ⟨rfl, hZ, hh⟩ := hP
  have hx := Bd.exec
  have hby := Bd.bytes
  have hml : c.maxLocals = 5 := hml0
  have hown : s.vm.findClass "gatherwick/maps/GwTreeMap" = some m.cls := findClass_of_methodNamed Bd.named
  have hnm := (name_of_methodNamed Bd.named Bd.method).1
  have hret := Bd.returns
  have hlk : meth.locks = false := BodyLoose.notSynchronized Bd
  have X0 : Stand p l e ({ frames := 8, cells := 1, slots := 3, locals := 115 } : Room) s m #[(.ref am), .null, (.ref ak), (.ref av)] below meth c s₁ [] 0 0 := Stand.of_body Bd
  have e0 : s₁.heap = h0 := by rw [← hh, Bd.state]; rfl
  have N0 := Fr.nil n0
  suffices hgo : Go p e below s ({ frames := 8, cells := 1, slots := 3, locals := 115 } : Room).cells ({ frames := 8, cells := 1, slots := 3, locals := 115 } : Room).slots (Q_rmIE Z am ak av kv tr an xk xv vl1 vr1 vp1 rx h0 n0) s₁ (mkF m 0 #[.val (.ref am), .val .null, .val (.ref ak), .val (.ref av), .unset] []) from hgo.enter (ef_rmIE m am ak av)
  refine Go.step (fun _ k => XS.aloadN X0.here hx rfl (hb hby d17_0) rfl rfl k) ?_
  refine Go.step (fun _ k => XS.aloadN X0.here hx rfl (hb hby d17_1) rfl rfl k) ?_
  refine Go.step (fun _ k => XS.aloadN X0.here hx rfl (hb hby d17_2) rfl rfl k) ?_
  obtain ⟨cq726, q726, q726'⟩ := Em.cell
  obtain ⟨_, _, ⟨T726, L726, k726, n726⟩, -, X726, ⟨Lc726, hQ726, l726, y726, z726⟩, st726⟩ := X0.privateBack hx (y := (⟨"gatherwick/maps/GwTreeMap", "locateToAdd", "(Lgatherwick/maps/GwTreeMap$SubMap;Ljava/lang/Object;)Lgatherwick/maps/GwTreeMap$Place;"⟩ : MethodName)) hown (mvT hZ (own_w hw 93 rfl)) (mvT hZ (own_w hw 94 rfl)) (own_selp (mvT hZ (own_w hw 1 rfl)) (Cond.privateMethod_at (mvP hZ (own_w hw 95 rfl) (args := #[]))) (mvT hZ (own_w hw 94 rfl)) (by decide)) (Cond.privateMethod_at (mvP hZ (own_w hw 95 rfl) (args := #[]))) (mvT hZ (own_w hw 96 rfl)) (by decide) (backOf (W := 0) (rmLa l Z a0 hw [] am ak kv tr (.ref an) (own_sp kv tr .null) (own_sl kv tr 0) h0 n0 Z0 Em Fc Frt Ek Fk HT rfl hn rfl rfl) hZ (own_w hw 96 rfl) (own_w hw 2 rfl) (by decide) (by decide)) (g := (mkF m 3 #[.val (.ref am), .val .null, .val (.ref ak), .val (.ref av), .unset] [(.ref ak), .null, (.ref am)])) rfl (by rw [hml]; rfl) (Steps.refl _) (a := am) (by rw [e0]; exact q726) q726' (argsL := [.null, (.ref ak)]) (rest := []) (lenOf pd__Lgatherwick_maps_GwTreeMap_SubMap_Ljava_lang_Object__Lgatherwick_maps_GwTreeMap_Place_ rfl) rfl (by show 2 * 0 + _ ≤ _; exact Nat.le_of_eq rfl) (hb hby d17_3) (fun _ _ => ⟨rfl, e0, (by decide : 0 + 1 ≤ _), (by decide : 0 + 3 ≤ _)⟩)
  dsimp only [Pt.U, Pt.locs, Pt.cells, Pt.slots] at X726 l726 y726 z726 st726 hQ726
  subst l726 y726 z726
  obtain ⟨h726, e726⟩ : ∃ h, T726.heap = h := ⟨_, rfl⟩
  rw [e726] at hQ726
  obtain ⟨ap_726, rfl, Nq726, Kq726, sz__726, Ep_726, Qn_726, Qp_726, Ql_726⟩ := hQ726
  have N726 := Fr.app N0 Nq726
  have Z726 : n0 ≤ h726.size := Nat.le_trans Z0 Kq726.1
  have KK726 := (Keep.refl h0 [an]).trans Kq726 all0
  have g_ap_726 : n0 ≤ ap_726 := Nat.le_trans Z0 sz__726
  have sz_ap_726 : h0.size ≤ ap_726 := Nat.le_trans (Keep.refl h0 [an]).1 sz__726
  have ne_ak_ap_726 : ak ≠ ap_726 := Nat.ne_of_lt (Nat.lt_of_lt_of_le Ek.lt sz__726)
  have ne_am_ap_726 : am ≠ ap_726 := Nat.ne_of_lt (Nat.lt_of_lt_of_le Em.lt sz__726)
  have ne_an_ap_726 : an ≠ ap_726 := Nat.ne_of_lt (Nat.lt_of_lt_of_le E_an.lt sz__726)
  refine Go.trans st726 ?_
  show Go _ _ _ _ _ _ _ T726 (mkF m 6 #[.val (.ref am), .val .null, .val (.ref ak), .val (.ref av), .unset] [(.ref ap_726)])
  refine Go.step (fun _ k => XS.astore X726.here hx rfl (hb hby d17_6) rfl rfl (l' := #[.val (.ref am), .val .null, .val (.ref ak), .val (.ref av), .val (.ref ap_726)]) rfl k) ?_
  show Go _ _ _ _ _ _ _ T726 (mkF m 8 #[.val (.ref am), .val .null, .val (.ref ak), .val (.ref av), .val (.ref ap_726)] [])
  refine Go.step (fun _ k => XS.aload X726.here hx rfl (hb hby d17_8) rfl rfl k) ?_
  obtain ⟨T727, X727, e727, st727⟩ := getF X726 hx hZ hown (host := "") (Or.inl (own_w hw 108 rfl)) Via.refl e726 Qn_726 (g := (mkF m 10 #[.val (.ref am), .val .null, .val (.ref ak), .val (.ref av), .val (.ref ap_726)] [(.ref ap_726)])) rfl rfl (hb hby d17_10)
  refine Go.step st727 ?_
  show Go _ _ _ _ _ _ _ T727 (mkF m 13 #[.val (.ref am), .val .null, .val (.ref ak), .val (.ref av), .val (.ref ap_726)] [(.ref an)])
  refine Go.step (fun _ k => XS.ifnullNo X727.here hx rfl (hb hby d17_13) rfl k) ?_
  show Go _ _ _ _ _ _ _ T727 (mkF m 16 #[.val (.ref am), .val .null, .val (.ref ak), .val (.ref av), .val (.ref ap_726)] [])
  refine Go.step (fun _ k => XS.aload X727.here hx rfl (hb hby d17_16) rfl rfl k) ?_
  obtain ⟨T728, X728, e728, st728⟩ := getF X727 hx hZ hown (host := "") (Or.inl (own_w hw 108 rfl)) Via.refl e727 Qn_726 (g := (mkF m 18 #[.val (.ref am), .val .null, .val (.ref ak), .val (.ref av), .val (.ref ap_726)] [(.ref ap_726)])) rfl rfl (hb hby d17_18)
  refine Go.step st728 ?_
  show Go _ _ _ _ _ _ _ T728 (mkF m 21 #[.val (.ref am), .val .null, .val (.ref ak), .val (.ref av), .val (.ref ap_726)] [(.ref an)])
  refine Go.step (fun _ k => XS.aloadN X728.here hx rfl (hb hby d17_21) rfl rfl k) ?_
  have f730 := (E_an.keep Kq726)
  have f731 := (a_key.keep Kq726 nin0)
  have f732 := (a_value.keep Kq726 nin0)
  have f733 := (a_left.keep Kq726 nin0)
  have f734 := (a_right.keep Kq726 nin0)
  have f735 := (a_parent.keep Kq726 nin0)
  have f736 := (a_red.keep Kq726 nin0)
  obtain ⟨cq729, kq729, q729a, q729b, q729c⟩ := isOf hZ e728 f730
  obtain ⟨_, _, ⟨T729, L729, k729, n729⟩, -, X729, ⟨Lc729, hQ729, l729, y729, z729⟩, st729⟩ := X728.virtualBack hx (y := (⟨"gatherwick/maps/RedBlackTree$Node", "setValue", "(Ljava/lang/Object;)Ljava/lang/Object;"⟩ : MethodName)) (z := (⟨"gatherwick/maps/RedBlackTree$Node", "setValue", "(Ljava/lang/Object;)Ljava/lang/Object;"⟩ : MethodName)) hown (mvT hZ (own_w hw 190 rfl)) (mvT hZ (own_w hw 191 rfl)) (notFace_of_selects (args := #[]) (mvT hZ (own_w hw 193 rfl))) (mvT hZ (own_w hw 193 rfl)) (mvT hZ (own_w hw 192 rfl)) (by decide) (backOf (W := 0) (rmSv l Z a0 hw [] an av xk xv vl1 vr1 vp1 rx h726 n0 Z726 f730 g_an f731 f732 f733 f734 f735 f736) hZ (own_w hw 194 rfl) (own_w hw 120 rfl) (by decide) (by decide)) q729a q729c (g := (mkF m 22 #[.val (.ref am), .val .null, .val (.ref ak), .val (.ref av), .val (.ref ap_726)] [(.ref av), (.ref an)])) rfl (by rw [hml]; rfl) (Steps.refl _) (argsL := [(.ref av)]) (rest := []) (lenOf pd__Ljava_lang_Object__Ljava_lang_Object_ rfl) rfl (by show 2 * 0 + _ ≤ _; exact Nat.le_of_eq rfl) (hb hby d17_22) (fun _ _ => ⟨rfl, e728, (by decide : 1 + 0 ≤ _), (by decide : 3 + 0 ≤ _)⟩)
  dsimp only [Pt.U, Pt.locs, Pt.cells, Pt.slots] at X729 l729 y729 z729 st729 hQ729
  subst l729 y729 z729
  obtain ⟨h729, e729⟩ : ∃ h, T729.heap = h := ⟨_, rfl⟩
  rw [e729] at hQ729
  obtain ⟨rfl, Nq729, Kq729, b_key_729, b_value_729, b_left_729, b_right_729, b_parent_729, b_red_729⟩ := hQ729
  have N729 := Fr.app N726 Nq729
  have Z729 : n0 ≤ h729.size := Nat.le_trans Z726 Kq729.1
  have KK729 := KK726.trans Kq729 (allS (Or.inl (List.mem_of_getElem? (i := 0) rfl)) all0)
  refine Go.trans st729 ?_
  show Go _ _ _ _ _ _ _ T729 (mkF m 25 #[.val (.ref am), .val .null, .val (.ref ak), .val (.ref av), .val (.ref ap_726)] [(.ref xv)])
  exact Go.retA X729 hx hret hlk rfl rfl (hb hby d17_25) e729 (by decide) (by decide) ⟨rfl, N729, KK729, b_key_729, b_value_729, b_left_729, b_right_729, b_parent_729, b_red_729⟩
theorem ef_rmUE (m : MethodId) (am : Addr) (ak : Addr) (av : Addr) : entryFrame m #[(.ref am), (.ref ak), (.ref av)] 3 = mkF m 0 #[.val (.ref am), .val (.ref ak), .val (.ref av)] [] := by first | (simp [entryFrame, mkF, argsToLocals, Value.category]; done) | rfl
def Q_rmUE (Z : State) (am : Addr) (ak : Addr) (av : Addr) (kv : Int32) (tr : List (Addr × Addr × Int32)) (an : Addr) (xk : Addr) (xv : Addr) (vl1 : Value) (vr1 : Value) (vp1 : Value) (rx : Int32) (h0 : Heap) (n0 : Nat) (v : Option Value) (h : Heap) (L : List Loc) : Prop := (v = some (.ref xv)) ∧ (Fr n0 L) ∧ (Keep h0 h [an]) ∧ (Fld Z h an "gatherwick/maps/RedBlackTree$Node" "key" "Ljava/lang/Object;" (.ref xk)) ∧ (Fld Z h an "gatherwick/maps/RedBlackTree$Node" "value" "Ljava/lang/Object;" (.ref av)) ∧ (Fld Z h an "gatherwick/maps/RedBlackTree$Node" "left" "Lgatherwick/maps/RedBlackTree$Node;" vl1) ∧ (Fld Z h an "gatherwick/maps/RedBlackTree$Node" "right" "Lgatherwick/maps/RedBlackTree$Node;" vr1) ∧ (Fld Z h an "gatherwick/maps/RedBlackTree$Node" "parent" "Lgatherwick/maps/RedBlackTree$Node;" vp1) ∧ (Fld Z h an "gatherwick/maps/RedBlackTree$Node" "red" "Z" (.int rx))
theorem rmUE (l : Launch) (Z : State) (a0 : Array Value) (hw : ∀ d ∈ tables_1, d.before a0 Z = true) (ws : List Jvm.Cond) (am : Addr) (ak : Addr) (av : Addr) (kv : Int32) (tr : List (Addr × Addr × Int32)) (an : Addr) (xk : Addr) (xv : Addr) (vl1 : Value) (vr1 : Value) (vp1 : Value) (rx : Int32) (h0 : Heap) (n0 : Nat) (Z0 : n0 ≤ h0.size) (Em : Exa Z h0 am "gatherwick/maps/GwTreeMap") (Fc : Fld Z h0 am "gatherwick/maps/GwTreeMap" "comparator" "Ljava/util/Comparator;" .null) (Frt : Fld Z h0 am "gatherwick/maps/GwTreeMap" "root" "Lgatherwick/maps/RedBlackTree$Node;" (own_val tr)) (Ek : Exa Z h0 ak "java/lang/Integer") (Fk : Fld Z h0 ak "java/lang/Integer" "value" "I" (.int kv)) (HT : own_HT Z h0 kv tr) (hn : own_sn kv tr = (.ref an)) (E_an : Exa Z h0 an "gatherwick/maps/RedBlackTree$Node") (g_an : n0 ≤ an) (a_key : Fld Z h0 an "gatherwick/maps/RedBlackTree$Node" "key" "Ljava/lang/Object;" (.ref xk)) (a_value : Fld Z h0 an "gatherwick/maps/RedBlackTree$Node" "value" "Ljava/lang/Object;" (.ref xv)) (a_left : Fld Z h0 an "gatherwick/maps/RedBlackTree$Node" "left" "Lgatherwick/maps/RedBlackTree$Node;" vl1) (a_right : Fld Z h0 an "gatherwick/maps/RedBlackTree$Node" "right" "Lgatherwick/maps/RedBlackTree$Node;" vr1) (a_parent : Fld Z h0 an "gatherwick/maps/RedBlackTree$Node" "parent" "Lgatherwick/maps/RedBlackTree$Node;" vp1) (a_red : Fld Z h0 an "gatherwick/maps/RedBlackTree$Node" "red" "Z" (.int rx)) :
    MetFree l (⟨"gatherwick/maps/GwTreeMap", "put", "(Ljava/lang/Object;Ljava/lang/Object;)Ljava/lang/Object;"⟩ : MethodName) (head1 (Jvm.Cond.code (⟨"gatherwick/maps/GwTreeMap", "put", "(Ljava/lang/Object;Ljava/lang/Object;)Ljava/lang/Object;"⟩ : MethodName) prog_46_method_16_code 3 (some (.object "java/lang/Object")) :: ws) ({ frames := 9, cells := 1, slots := 3, locals := 131 } : Room)) (fun aA U => aA = #[(.ref am), (.ref ak), (.ref av)] ∧ Z.Warmed39 U.vm ∧ U.heap = h0) (fun _ _ _ _ _ => True) (fun _ U o U' => ∃ v L, o = .returned v ∧ Q_rmUE Z am ak av kv tr an xk xv vl1 vr1 vp1 rx h0 n0 v U'.heap L ∧ FrameEnd U o U' L ({ frames := 9, cells := 1, slots := 3, locals := 131 } : Room).cells ({ frames := 9, cells := 1, slots := 3, locals := 131 } : Room).slots) := by
  refine MetFree.of_bodySF (plainFor_of_name pn_gatherwick_maps_GwTreeMap) hisR ?_
  intro p e s m args below meth c s₁ Bd hml0 hP hK
  obtain ⟨rfl, hZ, hh⟩ := hP
  have hx := Bd.exec
  have hby := Bd.bytes
  have hml : c.maxLocals = 3 := hml0
  have hown : s.vm.findClass "gatherwick/maps/GwTreeMap" = some m.cls := findClass_of_methodNamed Bd.named
  have hnm := (name_of_methodNamed Bd.named Bd.method).1
  have hret := Bd.returns
  have hlk : meth.locks = false := BodyLoose.notSynchronized Bd
  have X0 : Stand p l e ({ frames := 9, cells := 1, slots := 3, locals := 131 } : Room) s m #[(.ref am), (.ref ak), (.ref av)] below meth c s₁ [] 0 0 := Stand.of_body Bd
  have e0 : s₁.heap = h0 := by rw [← hh, Bd.state]; rfl
  have N0 := Fr.nil n0
  suffices hgo : Go p e below s ({ frames := 9, cells := 1, slots := 3, locals := 131 } : Room).cells ({ frames := 9, cells := 1, slots := 3, locals := 131 } : Room).slots (Q_rmUE Z am ak av kv tr an xk xv vl1 vr1 vp1 rx h0 n0) s₁ (mkF m 0 #[.val (.ref am), .val (.ref ak), .val (.ref av)] []) from hgo.enter (ef_rmUE m am ak av)
  refine Go.step (fun _ k => XS.aloadN X0.here hx rfl (hb hby d16_0) rfl rfl k) ?_
  refine Go.step (fun _ k => XS.aconstNull X0.here hx rfl (hb hby d16_1) k) ?_
  refine Go.step (fun _ k => XS.aloadN X0.here hx rfl (hb hby d16_2) rfl rfl k) ?_
  refine Go.step (fun _ k => XS.aloadN X0.here hx rfl (hb hby d16_3) rfl rfl k) ?_
  obtain ⟨cq737, q737, q737'⟩ := Em.cell
  obtain ⟨_, _, ⟨T737, L737, k737, n737⟩, -, X737, ⟨Lc737, hQ737, l737, y737, z737⟩, st737⟩ := X0.privateBack hx (y := (⟨"gatherwick/maps/GwTreeMap", "putIn", "(Lgatherwick/maps/GwTreeMap$SubMap;Ljava/lang/Object;Ljava/lang/Object;)Ljava/lang/Object;"⟩ : MethodName)) hown (mvT hZ (own_w hw 89 rfl)) (mvT hZ (own_w hw 90 rfl)) (own_selp (mvT hZ (own_w hw 1 rfl)) (Cond.privateMethod_at (mvP hZ (own_w hw 91 rfl) (args := #[]))) (mvT hZ (own_w hw 90 rfl)) (by decide)) (Cond.privateMethod_at (mvP hZ (own_w hw 91 rfl) (args := #[]))) (mvT hZ (own_w hw 92 rfl)) (by decide) (backOf (W := 0) (rmIE l Z a0 hw [] am ak av kv tr an xk xv vl1 vr1 vp1 rx h0 n0 Z0 Em Fc Frt Ek Fk HT hn E_an g_an a_key a_value a_left a_right a_parent a_red) hZ (own_w hw 92 rfl) (own_w hw 2 rfl) (by decide) (by decide)) (g := (mkF m 4 #[.val (.ref am), .val (.ref ak), .val (.ref av)] [(.ref av), (.ref ak), .null, (.ref am)])) rfl (by rw [hml]; rfl) (Steps.refl _) (a := am) (by rw [e0]; exact q737) q737' (argsL := [.null, (.ref ak), (.ref av)]) (rest := []) (lenOf pd__Lgatherwick_maps_GwTreeMap_SubMap_Ljava_lang_Object_Ljava_lang_Object__Ljava_lang_Object_ rfl) rfl (by show 2 * 0 + _ ≤ _; exact Nat.le_of_eq rfl) (hb hby d16_4) (fun _ _ => ⟨rfl, e0, (by decide : 0 + 1 ≤ _), (by decide : 0 + 3 ≤ _)⟩)
  dsimp only [Pt.U, Pt.locs, Pt.cells, Pt.slots] at X737 l737 y737 z737 st737 hQ737
  subst l737 y737 z737
  obtain ⟨h737, e737⟩ : ∃ h, T737.heap = h := ⟨_, rfl⟩
  rw [e737] at hQ737
  obtain ⟨rfl, Nq737, Kq737, b_key_737, b_value_737, b_left_737, b_right_737, b_parent_737, b_red_737⟩ := hQ737
  have N737 := Fr.app N0 Nq737
  have Z737 : n0 ≤ h737.size := Nat.le_trans Z0 Kq737.1
  have KK737 := (Keep.refl h0 [an]).trans Kq737 (allS (Or.inl (List.mem_of_getElem? (i := 0) rfl)) all0)
  refine Go.trans st737 ?_
  show Go _ _ _ _ _ _ _ T737 (mkF m 7 #[.val (.ref am), .val (.ref ak), .val (.ref av)] [(.ref xv)])
  exact Go.retA X737 hx hret hlk rfl rfl (hb hby d16_7) e737 (by decide) (by decide) ⟨rfl, N737, KK737, b_key_737, b_value_737, b_left_737, b_right_737, b_parent_737, b_red_737⟩
theorem pd__I_Ljava_lang_Integer_ : parseMethodDescriptor "(I)Ljava/lang/Integer;" = some ⟨[.int], some (.object "java/lang/Integer")⟩ := by decide +kernel
theorem pd__Ljava_lang_Object_Ljava_lang_Object__Ljava_lang_Object_ : parseMethodDescriptor "(Ljava/lang/Object;Ljava/lang/Object;)Ljava/lang/Object;" = some ⟨[(.object "java/lang/Object"), (.object "java/lang/Object")], some (.object "java/lang/Object")⟩ := by decide +kernel
theorem pd___I : parseMethodDescriptor "()I" = some ⟨[], some .int⟩ := by decide +kernel
theorem pn_gatherwick_maps_GwTreeMapClearPinLaw : plainName "gatherwick/maps/GwTreeMapClearPinLaw" = true := by first | (simp [plainName, overriddenIn]; done) | decide +kernel
theorem ef_rm0 (m : MethodId) (inn : Int32) (k1 : Int32) (k2 : Int32) (k3 : Int32) (iv : Int32) (iw : Int32) : entryFrame m #[(.int inn), (.int k1), (.int k2), (.int k3), (.int iv), (.int iw)] maxLocals = mkF m 0 #[.val (.int inn), .val (.int k1), .val (.int k2), .val (.int k3), .val (.int iv), .val (.int iw), .unset, .unset, .unset, .unset] [] := by first | (simp [entryFrame, mkF, argsToLocals, Value.category, maxLocals]; done) | rfl
theorem own_ar5 (cn : Int32) (hh0 : cn < (1 : Int32)) : cn < (2 : Int32) := by have := rng32 cn; have : (1 : Int32).toInt = 1 := rfl; have : (2 : Int32).toInt = 2 := rfl; simp only [Int32.lt_iff_toInt_lt, Int32.le_iff_toInt_le, ← Int32.toInt_inj, Int64.lt_iff_toInt_lt, Int64.le_iff_toInt_le, ← Int64.toInt_inj] at hh0 ⊢; omega
theorem own_ar6 (cn : Int32) (hh0 : cn < (2 : Int32)) : cn < (3 : Int32) := by have := rng32 cn; have : (2 : Int32).toInt = 2 := rfl; have : (3 : Int32).toInt = 3 := rfl; simp only [Int32.lt_iff_toInt_lt, Int32.le_iff_toInt_le, ← Int32.toInt_inj, Int64.lt_iff_toInt_lt, Int64.le_iff_toInt_le, ← Int64.toInt_inj] at hh0 ⊢; omega
theorem own_ar7 (cn : Int32) (hh0 : cn < (2 : Int32)) : cn < (3 : Int32) := by have := rng32 cn; have : (2 : Int32).toInt = 2 := rfl; have : (3 : Int32).toInt = 3 := rfl; simp only [Int32.lt_iff_toInt_lt, Int32.le_iff_toInt_le, ← Int32.toInt_inj, Int64.lt_iff_toInt_lt, Int64.le_iff_toInt_le, ← Int64.toInt_inj] at hh0 ⊢; omega
def Q_rm0 (Z : State) (inn : Int32) (k1 : Int32) (k2 : Int32) (k3 : Int32) (iv : Int32) (iw : Int32) (ac : Addr) (cc : Cell) (h0 : Heap) (n0 : Nat) (v : Option Value) (h : Heap) (L : List Loc) : Prop := (v = some (.int (1 : Int32))) ∧ (Fr n0 L) ∧ (True)
theorem rm0 (l : Launch) (Z : State) (a0 : Array Value) (hw : ∀ d ∈ tables_1, d.before a0 Z = true) (ws : List Jvm.Cond) (inn : Int32) (k1 : Int32) (k2 : Int32) (k3 : Int32) (iv : Int32) (iw : Int32) (ac : Addr) (cc : Cell) (h0 : Heap) (n0 : Nat) (Z0 : n0 ≤ h0.size) (O0 : Old Z n0 h0) (SH : Sta Z Z.heap "java/lang/Integer$IntegerCache" "high" "I" (.int (127 : Int32))) (SC : Sta Z Z.heap "java/lang/Integer$IntegerCache" "cache" "[Ljava/lang/Integer;" (.ref ac)) (BX : Bxs Z ac cc "java/lang/Integer" "I" (256 : Int32) (fun j => .int (j - 128))) :
    MetFree l x (head1 (Jvm.Cond.code x code maxLocals ret :: ws) room_1) (fun aA U => aA = #[(.int inn), (.int k1), (.int k2), (.int k3), (.int iv), (.int iw)] ∧ Z.Warmed39 U.vm ∧ U.heap = h0) (fun _ _ _ _ _ => True) (fun _ U o U' => ∃ v L, o = .returned v ∧ Q_rm0 Z inn k1 k2 k3 iv iw ac cc h0 n0 v U'.heap L ∧ FrameEnd U o U' L room_1.cells room_1.slots) := by
  refine MetFree.of_bodySF (plainFor_of_name pn_gatherwick_maps_GwTreeMapClearPinLaw) hisR ?_
  intro p e s m args below meth c s₁ Bd hml0 hP hK
  obtain ⟨rfl, hZ, hh⟩ := hP
  have hx := Bd.exec
  have hby := Bd.bytes
  have hml : c.maxLocals = 10 := hml0
  have hown : s.vm.findClass "gatherwick/maps/GwTreeMapClearPinLaw" = some m.cls := findClass_of_methodNamed Bd.named
  have hnm := (name_of_methodNamed Bd.named Bd.method).1
  have hret := Bd.returns
  have hlk : meth.locks = false := BodyLoose.notSynchronized Bd
  have X0 : Stand p l e room_1 s m #[(.int inn), (.int k1), (.int k2), (.int k3), (.int iv), (.int iw)] below meth c s₁ [] 0 0 := Stand.of_body Bd
  have e0 : s₁.heap = h0 := by rw [← hh, Bd.state]; rfl
  have N0 := Fr.nil n0
  suffices hgo : Go p e below s room_1.cells room_1.slots (Q_rm0 Z inn k1 k2 k3 iv iw ac cc h0 n0) s₁ (mkF m 0 #[.val (.int inn), .val (.int k1), .val (.int k2), .val (.int k3), .val (.int iv), .val (.int iw), .unset, .unset, .unset, .unset] []) from hgo.enter (ef_rm0 m inn k1 k2 k3 iv iw)
  refine Go.step (fun _ k => XS.iloadN X0.here hx rfl (hb hby at_0) rfl k) ?_
  refine Go.step (fun _ k => XS.iconst X0.here hx rfl (hb hby at_1) k) ?_
  refine Go.step (fun _ k => XS.iand X0.here hx rfl (hb hby at_2) rfl k) ?_
  refine Go.step (fun _ k => XS.istore X0.here hx rfl (hb hby at_3) rfl (l' := #[.val (.int inn), .val (.int k1), .val (.int k2), .val (.int k3), .val (.int iv), .val (.int iw), .val (.int (inn &&& (3 : Int32))), .unset, .unset, .unset]) rfl k) ?_
  show Go _ _ _ _ _ _ _ s₁ (mkF m 5 #[.val (.int inn), .val (.int k1), .val (.int k2), .val (.int k3), .val (.int iv), .val (.int iw), .val (.int (inn &&& (3 : Int32))), .unset, .unset, .unset] [])
  obtain ⟨T738, h738, X738, e738, E738, A738, D738, -, st738⟩ := newO X0 hx hZ hown (own_w hw 0 rfl) (own_w hw 1 rfl) (own_w hw 2 rfl) e0 (g := (mkF m 5 #[.val (.int inn), .val (.int k1), .val (.int k2), .val (.int k3), .val (.int iv), .val (.int iw), .val (.int (inn &&& (3 : Int32))), .unset, .unset, .unset] [])) rfl (hb hby at_5) (by decide) (by decide)
  obtain ⟨b738, g738⟩ : ∃ z, z = h0.size := ⟨_, rfl⟩
  rw [← g738] at A738 D738 st738
  refine Go.step st738 ?_
  have g_b738 : n0 ≤ b738 := Nat.le_trans Z0 (Nat.le_of_eq g738.symm)
  have Z738 : n0 ≤ h738.size := Nat.le_trans Z0 E738.1
  have Fcomparator_738 : Fld Z h738 b738 "gatherwick/maps/GwTreeMap" "comparator" "Ljava/util/Comparator;" .null := D738 (Or.inr (own_w hw 15 rfl)) (ty := (.object "java/util/Comparator")) (by decide)
  have Fsize_738 : Fld Z h738 b738 "gatherwick/maps/GwTreeMap" "size" "I" (.int (0 : Int32)) := D738 (Or.inl (own_w hw 22 rfl)) (ty := .int) (by decide)
  have Froot_738 : Fld Z h738 b738 "gatherwick/maps/GwTreeMap" "root" "Lgatherwick/maps/RedBlackTree$Node;" .null := D738 (Or.inl (own_w hw 53 rfl)) (ty := (.object "gatherwick/maps/RedBlackTree$Node")) (by decide)
  have FmodCount_738 : Fld Z h738 b738 "gatherwick/maps/GwTreeMap" "modCount" "I" (.int (0 : Int32)) := D738 (Or.inl (own_w hw 155 rfl)) (ty := .int) (by decide)
  show Go _ _ _ _ _ _ _ T738 (mkF m 8 #[.val (.int inn), .val (.int k1), .val (.int k2), .val (.int k3), .val (.int iv), .val (.int iw), .val (.int (inn &&& (3 : Int32))), .unset, .unset, .unset] [(.ref b738)])
  refine Go.step (fun _ k => XS.dup X738.here hx rfl (hb hby at_8) rfl rfl k) ?_
  obtain ⟨_, _, ⟨T739, L739, k739, n739⟩, -, X739, ⟨Lc739, hQ739, l739, y739, z739⟩, st739⟩ := X738.specialBack hx (y := (⟨"gatherwick/maps/GwTreeMap", "<init>", "()V"⟩ : MethodName)) rfl hown (mvT hZ (own_w hw 3 rfl)) (mvT hZ (own_w hw 4 rfl)) (mvT hZ (own_w hw 5 rfl)) (by decide) (backOf (W := 1) (rmMi l Z a0 hw [] b738 h738 n0 Z738 A738 g_b738 Fcomparator_738 Froot_738 Fsize_738 FmodCount_738) hZ (own_w hw 5 rfl) (own_w hw 2 rfl) (by decide) (by decide)) (g := (mkF m 9 #[.val (.int inn), .val (.int k1), .val (.int k2), .val (.int k3), .val (.int iv), .val (.int iw), .val (.int (inn &&& (3 : Int32))), .unset, .unset, .unset] [(.ref b738), (.ref b738)])) rfl (by rw [hml]; rfl) (Steps.refl _) (a := b738) (argsL := []) (rest := [(.ref b738)]) (lenOf pd___V rfl) rfl (by show 2 * 0 + _ ≤ _; exact Nat.le_of_eq rfl) (hb hby at_9) (fun _ _ => ⟨rfl, e738, (by decide : 1 + 0 ≤ _), (by decide : 5 + 0 ≤ _)⟩)
  dsimp only [Pt.U, Pt.locs, Pt.cells, Pt.slots] at X739 l739 y739 z739 st739 hQ739
  subst l739 y739 z739
  obtain ⟨h739, e739⟩ : ∃ h, T739.heap = h := ⟨_, rfl⟩
  rw [e739] at hQ739
  obtain ⟨rfl, Nq739, Kq739, b_comparator_739, b_root_739, b_size_739, b_modCount_739⟩ := hQ739
  have N739 := Fr.app N0 Nq739
  have Z739 : n0 ≤ h739.size := Nat.le_trans Z738 Kq739.1
  refine Go.trans st739 ?_
  show Go _ _ _ _ _ _ _ T739 (mkF m 12 #[.val (.int inn), .val (.int k1), .val (.int k2), .val (.int k3), .val (.int iv), .val (.int iw), .val (.int (inn &&& (3 : Int32))), .unset, .unset, .unset] [(.ref b738)])
  refine Go.step (fun _ k => XS.astore X739.here hx rfl (hb hby at_12) rfl rfl (l' := #[.val (.int inn), .val (.int k1), .val (.int k2), .val (.int k3), .val (.int iv), .val (.int iw), .val (.int (inn &&& (3 : Int32))), .val (.ref b738), .unset, .unset]) rfl k) ?_
  show Go _ _ _ _ _ _ _ T739 (mkF m 14 #[.val (.int inn), .val (.int k1), .val (.int k2), .val (.int k3), .val (.int iv), .val (.int iw), .val (.int (inn &&& (3 : Int32))), .val (.ref b738), .unset, .unset] [])
  generalize (inn &&& (3 : Int32)) = cn
  show Go _ _ _ _ _ _ _ T739 (mkF m 14 #[.val (.int inn), .val (.int k1), .val (.int k2), .val (.int k3), .val (.int iv), .val (.int iw), .val (.int cn), .val (.ref b738), .unset, .unset] [])
  have J : ∀ (TJ : State) (hJ : Heap) (LJ : List Loc) (vr : Value) (sz : Int32) (mc : Int32), (Stand p l e room_1 s m #[(.int inn), (.int k1), (.int k2), (.int k3), (.int iv), (.int iw)] below meth c TJ LJ 16 48) → (TJ.heap = hJ) → (Fr n0 LJ) → (n0 ≤ hJ.size) → (Exa Z hJ b738 "gatherwick/maps/GwTreeMap") → (Fld Z hJ b738 "gatherwick/maps/GwTreeMap" "comparator" "Ljava/util/Comparator;" .null) → (Fld Z hJ b738 "gatherwick/maps/GwTreeMap" "root" "Lgatherwick/maps/RedBlackTree$Node;" vr) → (Fld Z hJ b738 "gatherwick/maps/GwTreeMap" "size" "I" (.int sz)) → (Fld Z hJ b738 "gatherwick/maps/GwTreeMap" "modCount" "I" (.int mc)) → (Old Z n0 hJ) → (¬ ((0 : Int32) < sz) → sz = 0 ∧ vr = .null) → Go p e below s room_1.cells room_1.slots (Q_rm0 Z inn k1 k2 k3 iv iw ac cc h0 n0) TJ (mkF m 77 #[.val (.int inn), .val (.int k1), .val (.int k2), .val (.int k3), .val (.int iv), .val (.int iw), .val (.int cn), .val (.ref b738), .unset, .unset] []) := by
    intro TJ hJ LJ vr sz mc XJ eJ NJ ZJ Ej Fcj Frj Fsj Fmj Oj hsz
    refine Go.step (fun _ k => XS.aload XJ.here hx rfl (hb hby at_77) rfl rfl k) ?_
    obtain ⟨cq740, kq740, q740a, q740b, q740c⟩ := isOf hZ eJ Ej
    obtain ⟨_, _, ⟨T740, L740, k740, n740⟩, -, X740, ⟨Lc740, hQ740, l740, y740, z740⟩, st740⟩ := XJ.virtualBack hx (y := (⟨"gatherwick/maps/GwTreeMap", "clear", "()V"⟩ : MethodName)) (z := (⟨"gatherwick/maps/GwTreeMap", "clear", "()V"⟩ : MethodName)) hown (mvT hZ (own_w hw 16 rfl)) (mvT hZ (own_w hw 17 rfl)) (notFace_of_selects (args := #[]) (mvT hZ (own_w hw 19 rfl))) (mvT hZ (own_w hw 19 rfl)) (mvT hZ (own_w hw 18 rfl)) (by decide) (backOf (W := 0) (rmCl l Z a0 hw [] b738 vr sz mc hJ n0 ZJ Ej g_b738 Fcj Frj Fsj Fmj hsz) hZ (own_w hw 20 rfl) (own_w hw 2 rfl) (by decide) (by decide)) q740a q740c (g := (mkF m 79 #[.val (.int inn), .val (.int k1), .val (.int k2), .val (.int k3), .val (.int iv), .val (.int iw), .val (.int cn), .val (.ref b738), .unset, .unset] [(.ref b738)])) rfl (by rw [hml]; rfl) (Steps.refl _) (argsL := []) (rest := []) (lenOf pd___V rfl) rfl (by show 2 * 0 + _ ≤ _; exact Nat.le_of_eq rfl) (hb hby at_79) (fun _ _ => ⟨rfl, eJ, (by decide : 16 + 0 ≤ _), (by decide : 48 + 0 ≤ _)⟩)
    dsimp only [Pt.U, Pt.locs, Pt.cells, Pt.slots] at X740 l740 y740 z740 st740 hQ740
    subst l740 y740 z740
    obtain ⟨h740, e740⟩ : ∃ h, T740.heap = h := ⟨_, rfl⟩
    rw [e740] at hQ740
    obtain ⟨mc2_740, rfl, Nq740, Kq740, b_comparator_740, b_root_740, b_size_740, b_modCount_740⟩ := hQ740
    have N740 := Fr.app NJ Nq740
    have Z740 : n0 ≤ h740.size := Nat.le_trans ZJ Kq740.1
    refine Go.trans st740 ?_
    show Go _ _ _ _ _ _ _ T740 (mkF m 82 #[.val (.int inn), .val (.int k1), .val (.int k2), .val (.int k3), .val (.int iv), .val (.int iw), .val (.int cn), .val (.ref b738), .unset, .unset] [])
    refine Go.step (fun _ k => XS.aload X740.here hx rfl (hb hby at_82) rfl rfl k) ?_
    have f742 := (Ej.keep Kq740)
    obtain ⟨cq741, kq741, q741a, q741b, q741c⟩ := isOf hZ e740 f742
    obtain ⟨_, _, ⟨T741, L741, k741, n741⟩, -, X741, ⟨Lc741, hQ741, l741, y741, z741⟩, st741⟩ := X740.virtualBack hx (y := (⟨"gatherwick/maps/GwTreeMap", "size", "()I"⟩ : MethodName)) (z := (⟨"gatherwick/maps/GwTreeMap", "size", "()I"⟩ : MethodName)) hown (mvT hZ (own_w hw 23 rfl)) (mvT hZ (own_w hw 24 rfl)) (notFace_of_selects (args := #[]) (mvT hZ (own_w hw 26 rfl))) (mvT hZ (own_w hw 26 rfl)) (mvT hZ (own_w hw 25 rfl)) (by decide) (backOf (W := 0) (rmSz l Z a0 hw [] b738 (0 : Int32) h740 n0 Z740 b_size_740) hZ (own_w hw 27 rfl) (own_w hw 2 rfl) (by decide) (by decide)) q741a q741c (g := (mkF m 84 #[.val (.int inn), .val (.int k1), .val (.int k2), .val (.int k3), .val (.int iv), .val (.int iw), .val (.int cn), .val (.ref b738), .unset, .unset] [(.ref b738)])) rfl (by rw [hml]; rfl) (Steps.refl _) (argsL := []) (rest := []) (lenOf pd___I rfl) rfl (by show 2 * 0 + _ ≤ _; exact Nat.le_of_eq rfl) (hb hby at_84) (fun _ _ => ⟨rfl, e740, (by decide : 16 + 0 ≤ _), (by decide : 48 + 0 ≤ _)⟩)
    dsimp only [Pt.U, Pt.locs, Pt.cells, Pt.slots] at X741 l741 y741 z741 st741 hQ741
    subst l741 y741 z741
    obtain ⟨h741, e741⟩ : ∃ h, T741.heap = h := ⟨_, rfl⟩
    rw [e741] at hQ741
    obtain ⟨rfl, Nq741, hs741⟩ := hQ741
    have N741 := Fr.app N740 Nq741
    rw [hs741] at e741
    refine Go.trans st741 ?_
    show Go _ _ _ _ _ _ _ T741 (mkF m 87 #[.val (.int inn), .val (.int k1), .val (.int k2), .val (.int k3), .val (.int iv), .val (.int iw), .val (.int cn), .val (.ref b738), .unset, .unset] [(.int (0 : Int32))])
    have hc87_743 : (0 : Int32) = (0 : Int32) := (by decide)
    refine Go.step (fun _ k => XS.ifYes X741.here hx rfl (pc0 := 87) (pc' := 92) rfl (hb hby at_87) rfl ((if0 _ _).trans (teq hc87_743).1) (by decide) (by decide) k) ?_
    show Go _ _ _ _ _ _ _ T741 (mkF m 92 #[.val (.int inn), .val (.int k1), .val (.int k2), .val (.int k3), .val (.int iv), .val (.int iw), .val (.int cn), .val (.ref b738), .unset, .unset] [])
    refine Go.step (fun _ k => XS.aload X741.here hx rfl (hb hby at_92) rfl rfl k) ?_
    refine Go.step (fun _ k => XS.iloadN X741.here hx rfl (hb hby at_94) rfl k) ?_
    have f745 := (Oj.keep Kq740 (allS g_b738 all0))
    obtain ⟨_, _, ⟨T744, L744, k744, n744⟩, -, X744, ⟨Lc744, hQ744, l744, y744, z744⟩, st744⟩ := Jvm.LawKit.callS X741 hx (y := (⟨"java/lang/Integer", "valueOf", "(I)Ljava/lang/Integer;"⟩ : MethodName)) hown (mvT hZ (own_w hw 28 rfl)) (mvT hZ (own_w hw 29 rfl)) (mvT hZ (own_w hw 30 rfl)) (mvT hZ (own_w hw 31 rfl)) (by decide) (backOf (W := 1) (rmVo l Z a0 hw [] k2 ac cc h740 n0 Z740 f745 SH SC BX) hZ (own_w hw 31 rfl) (own_w hw 30 rfl) (by decide) (by decide)) (g := (mkF m 95 #[.val (.int inn), .val (.int k1), .val (.int k2), .val (.int k3), .val (.int iv), .val (.int iw), .val (.int cn), .val (.ref b738), .unset, .unset] [(.int k2), (.ref b738)])) rfl (by rw [hml]; rfl) (argsL := [(.int k2)]) (rest := [(.ref b738)]) (lenOf pd__I_Ljava_lang_Integer_ rfl) rfl (by show 2 * 0 + _ ≤ _; exact Nat.le_of_eq rfl) (hb hby at_95) (fun _ _ => ⟨rfl, e741, (by decide : 16 + 1 ≤ _), (by decide : 48 + 1 ≤ _)⟩)
    dsimp only [Pt.U, Pt.locs, Pt.cells, Pt.slots] at X744 l744 y744 z744 st744 hQ744
    subst l744 y744 z744
    obtain ⟨h744, e744⟩ : ∃ h, T744.heap = h := ⟨_, rfl⟩
    rw [e744] at hQ744
    obtain ⟨ax_744, rfl, Nq744, Kq744, E1_744, F1_744⟩ := hQ744
    have N744 := Fr.app N741 Nq744
    have Z744 : n0 ≤ h744.size := Nat.le_trans Z740 Kq744.1
    refine Go.step st744 ?_
    show Go _ _ _ _ _ _ _ T744 (mkF m 98 #[.val (.int inn), .val (.int k1), .val (.int k2), .val (.int k3), .val (.int iv), .val (.int iw), .val (.int cn), .val (.ref b738), .unset, .unset] [(.ref ax_744), (.ref b738)])
    have f747 := (f742.keep Kq744)
    have f748 := (b_comparator_740.keep Kq744 nin0)
    have f749 := (b_root_740.keep Kq744 nin0)
    obtain ⟨cq746, kq746, q746a, q746b, q746c⟩ := isOf hZ e744 f747
    obtain ⟨_, _, ⟨T746, L746, k746, n746⟩, -, X746, ⟨Lc746, hQ746, l746, y746, z746⟩, st746⟩ := X744.virtualBack hx (y := (⟨"gatherwick/maps/GwTreeMap", "get", "(Ljava/lang/Object;)Ljava/lang/Object;"⟩ : MethodName)) (z := (⟨"gatherwick/maps/GwTreeMap", "get", "(Ljava/lang/Object;)Ljava/lang/Object;"⟩ : MethodName)) hown (mvT hZ (own_w hw 35 rfl)) (mvT hZ (own_w hw 36 rfl)) (notFace_of_selects (args := #[]) (mvT hZ (own_w hw 38 rfl))) (mvT hZ (own_w hw 38 rfl)) (mvT hZ (own_w hw 37 rfl)) (by decide) (backOf (W := 0) (rmHa l Z a0 hw [] b738 ax_744 k2 h744 n0 Z744 f747 f748 f749 E1_744 F1_744) hZ (own_w hw 39 rfl) (own_w hw 2 rfl) (by decide) (by decide)) q746a q746c (g := (mkF m 98 #[.val (.int inn), .val (.int k1), .val (.int k2), .val (.int k3), .val (.int iv), .val (.int iw), .val (.int cn), .val (.ref b738), .unset, .unset] [(.ref ax_744), (.ref b738)])) rfl (by rw [hml]; rfl) (Steps.refl _) (argsL := [(.ref ax_744)]) (rest := []) (lenOf pd__Ljava_lang_Object__Ljava_lang_Object_ rfl) rfl (by show 2 * 0 + _ ≤ _; exact Nat.le_of_eq rfl) (hb hby at_98) (fun _ _ => ⟨rfl, e744, (by decide : 17 + 0 ≤ _), (by decide : 49 + 0 ≤ _)⟩)
    dsimp only [Pt.U, Pt.locs, Pt.cells, Pt.slots] at X746 l746 y746 z746 st746 hQ746
    subst l746 y746 z746
    obtain ⟨h746, e746⟩ : ∃ h, T746.heap = h := ⟨_, rfl⟩
    rw [e746] at hQ746
    obtain ⟨rfl, Nq746, hs746⟩ := hQ746
    have N746 := Fr.app N744 Nq746
    rw [hs746] at e746
    refine Go.trans st746 ?_
    show Go _ _ _ _ _ _ _ T746 (mkF m 101 #[.val (.int inn), .val (.int k1), .val (.int k2), .val (.int k3), .val (.int iv), .val (.int iw), .val (.int cn), .val (.ref b738), .unset, .unset] [.null])
    refine Go.step (fun _ k => XS.ifnullYes X746.here hx rfl (pc0 := 101) (pc' := 106) rfl (hb hby at_101) rfl (by decide) (by decide) k) ?_
    show Go _ _ _ _ _ _ _ T746 (mkF m 106 #[.val (.int inn), .val (.int k1), .val (.int k2), .val (.int k3), .val (.int iv), .val (.int iw), .val (.int cn), .val (.ref b738), .unset, .unset] [])
    refine Go.step (fun _ k => XS.aload X746.here hx rfl (hb hby at_106) rfl rfl k) ?_
    refine Go.step (fun _ k => XS.iloadN X746.here hx rfl (hb hby at_108) rfl k) ?_
    have f751 := (f745.keep Kq744 all0)
    obtain ⟨_, _, ⟨T750, L750, k750, n750⟩, -, X750, ⟨Lc750, hQ750, l750, y750, z750⟩, st750⟩ := Jvm.LawKit.callS X746 hx (y := (⟨"java/lang/Integer", "valueOf", "(I)Ljava/lang/Integer;"⟩ : MethodName)) hown (mvT hZ (own_w hw 28 rfl)) (mvT hZ (own_w hw 29 rfl)) (mvT hZ (own_w hw 30 rfl)) (mvT hZ (own_w hw 31 rfl)) (by decide) (backOf (W := 1) (rmVo l Z a0 hw [] k1 ac cc h744 n0 Z744 f751 SH SC BX) hZ (own_w hw 31 rfl) (own_w hw 30 rfl) (by decide) (by decide)) (g := (mkF m 109 #[.val (.int inn), .val (.int k1), .val (.int k2), .val (.int k3), .val (.int iv), .val (.int iw), .val (.int cn), .val (.ref b738), .unset, .unset] [(.int k1), (.ref b738)])) rfl (by rw [hml]; rfl) (argsL := [(.int k1)]) (rest := [(.ref b738)]) (lenOf pd__I_Ljava_lang_Integer_ rfl) rfl (by show 2 * 0 + _ ≤ _; exact Nat.le_of_eq rfl) (hb hby at_109) (fun _ _ => ⟨rfl, e746, (by decide : 17 + 1 ≤ _), (by decide : 49 + 1 ≤ _)⟩)
    dsimp only [Pt.U, Pt.locs, Pt.cells, Pt.slots] at X750 l750 y750 z750 st750 hQ750
    subst l750 y750 z750
    obtain ⟨h750, e750⟩ : ∃ h, T750.heap = h := ⟨_, rfl⟩
    rw [e750] at hQ750
    obtain ⟨ax_750, rfl, Nq750, Kq750, E1_750, F1_750⟩ := hQ750
    have N750 := Fr.app N746 Nq750
    have Z750 : n0 ≤ h750.size := Nat.le_trans Z744 Kq750.1
    refine Go.step st750 ?_
    show Go _ _ _ _ _ _ _ T750 (mkF m 112 #[.val (.int inn), .val (.int k1), .val (.int k2), .val (.int k3), .val (.int iv), .val (.int iw), .val (.int cn), .val (.ref b738), .unset, .unset] [(.ref ax_750), (.ref b738)])
    refine Go.step (fun _ k => XS.iload X750.here hx rfl (hb hby at_112) rfl k) ?_
    have f753 := (f751.keep Kq750 all0)
    obtain ⟨_, _, ⟨T752, L752, k752, n752⟩, -, X752, ⟨Lc752, hQ752, l752, y752, z752⟩, st752⟩ := Jvm.LawKit.callS X750 hx (y := (⟨"java/lang/Integer", "valueOf", "(I)Ljava/lang/Integer;"⟩ : MethodName)) hown (mvT hZ (own_w hw 28 rfl)) (mvT hZ (own_w hw 29 rfl)) (mvT hZ (own_w hw 30 rfl)) (mvT hZ (own_w hw 31 rfl)) (by decide) (backOf (W := 2) (rmVo l Z a0 hw [] iw ac cc h750 n0 Z750 f753 SH SC BX) hZ (own_w hw 31 rfl) (own_w hw 30 rfl) (by decide) (by decide)) (g := (mkF m 114 #[.val (.int inn), .val (.int k1), .val (.int k2), .val (.int k3), .val (.int iv), .val (.int iw), .val (.int cn), .val (.ref b738), .unset, .unset] [(.int iw), (.ref ax_750), (.ref b738)])) rfl (by rw [hml]; rfl) (argsL := [(.int iw)]) (rest := [(.ref ax_750), (.ref b738)]) (lenOf pd__I_Ljava_lang_Integer_ rfl) rfl (by show 2 * 0 + _ ≤ _; exact Nat.le_of_eq rfl) (hb hby at_114) (fun _ _ => ⟨rfl, e750, (by decide : 18 + 1 ≤ _), (by decide : 50 + 1 ≤ _)⟩)
    dsimp only [Pt.U, Pt.locs, Pt.cells, Pt.slots] at X752 l752 y752 z752 st752 hQ752
    subst l752 y752 z752
    obtain ⟨h752, e752⟩ : ∃ h, T752.heap = h := ⟨_, rfl⟩
    rw [e752] at hQ752
    have f754 := (E1_744.keep Kq750)
    have f755 := (f747.keep Kq750)
    obtain ⟨ax_752, rfl, Nq752, Kq752, E1_752, F1_752⟩ := hQ752
    have N752 := Fr.app N750 Nq752
    have Z752 : n0 ≤ h752.size := Nat.le_trans Z750 Kq752.1
    refine Go.step st752 ?_
    show Go _ _ _ _ _ _ _ T752 (mkF m 117 #[.val (.int inn), .val (.int k1), .val (.int k2), .val (.int k3), .val (.int iv), .val (.int iw), .val (.int cn), .val (.ref b738), .unset, .unset] [(.ref ax_752), (.ref ax_750), (.ref b738)])
    have f757 := (f755.keep Kq752)
    have f758 := ((f748.keep Kq750 nin0).keep Kq752 nin0)
    have f759 := ((f749.keep Kq750 nin0).keep Kq752 nin0)
    have f760 := (((b_size_740.keep Kq744 nin0).keep Kq750 nin0).keep Kq752 nin0)
    have f761 := (((b_modCount_740.keep Kq744 nin0).keep Kq750 nin0).keep Kq752 nin0)
    have f762 := (E1_750.keep Kq752)
    have f763 := (F1_750.keep Kq752 nin0)
    obtain ⟨cq756, kq756, q756a, q756b, q756c⟩ := isOf hZ e752 f757
    obtain ⟨_, _, ⟨T756, L756, k756, n756⟩, -, X756, ⟨Lc756, hQ756, l756, y756, z756⟩, st756⟩ := X752.virtualBack hx (y := (⟨"gatherwick/maps/GwTreeMap", "put", "(Ljava/lang/Object;Ljava/lang/Object;)Ljava/lang/Object;"⟩ : MethodName)) (z := (⟨"gatherwick/maps/GwTreeMap", "put", "(Ljava/lang/Object;Ljava/lang/Object;)Ljava/lang/Object;"⟩ : MethodName)) hown (mvT hZ (own_w hw 84 rfl)) (mvT hZ (own_w hw 85 rfl)) (notFace_of_selects (args := #[]) (mvT hZ (own_w hw 87 rfl))) (mvT hZ (own_w hw 87 rfl)) (mvT hZ (own_w hw 86 rfl)) (by decide) (backOf (W := 0) (rmUZ l Z a0 hw [] b738 ax_750 ax_752 k1 (0 : Int32) mc2_740 h752 n0 Z752 f757 g_b738 f758 f759 f760 f761 f762 f763 trivial rfl rfl rfl (by decide)) hZ (own_w hw 88 rfl) (own_w hw 2 rfl) (by decide) (by decide)) q756a q756c (g := (mkF m 117 #[.val (.int inn), .val (.int k1), .val (.int k2), .val (.int k3), .val (.int iv), .val (.int iw), .val (.int cn), .val (.ref b738), .unset, .unset] [(.ref ax_752), (.ref ax_750), (.ref b738)])) rfl (by rw [hml]; rfl) (Steps.refl _) (argsL := [(.ref ax_750), (.ref ax_752)]) (rest := []) (lenOf pd__Ljava_lang_Object_Ljava_lang_Object__Ljava_lang_Object_ rfl) rfl (by show 2 * 0 + _ ≤ _; exact Nat.le_of_eq rfl) (hb hby at_117) (fun _ _ => ⟨rfl, e752, (by decide : 19 + 2 ≤ _), (by decide : 51 + 9 ≤ _)⟩)
    dsimp only [Pt.U, Pt.locs, Pt.cells, Pt.slots] at X756 l756 y756 z756 st756 hQ756
    subst l756 y756 z756
    obtain ⟨h756, e756⟩ : ∃ h, T756.heap = h := ⟨_, rfl⟩
    rw [e756] at hQ756
    have f764 := (f754.keep Kq752)
    obtain ⟨an_756, rfl, Nq756, Kq756, szn_756, E_n_756, b_key_756, b_value_756, b_left_756, b_right_756, b_parent_756, b_red_756, q_comparator_756, q_root_756, q_size_756, q_modCount_756⟩ := hQ756
    have N756 := Fr.app N752 Nq756
    have Z756 : n0 ≤ h756.size := Nat.le_trans Z752 Kq756.1
    have g_an_756 : n0 ≤ an_756 := Nat.le_trans Z752 szn_756
    have ne_ax_744_an_756 : ax_744 ≠ an_756 := Nat.ne_of_lt (Nat.lt_of_lt_of_le f764.lt szn_756)
    have ne_ax_750_an_756 : ax_750 ≠ an_756 := Nat.ne_of_lt (Nat.lt_of_lt_of_le f762.lt szn_756)
    have ne_ax_752_an_756 : ax_752 ≠ an_756 := Nat.ne_of_lt (Nat.lt_of_lt_of_le E1_752.lt szn_756)
    have ne_b738_an_756 : b738 ≠ an_756 := Nat.ne_of_lt (Nat.lt_of_lt_of_le f757.lt szn_756)
    have q_size_756 : Fld Z h756 b738 "gatherwick/maps/GwTreeMap" "size" "I" (.int (1 : Int32)) := q_size_756
    refine Go.trans st756 ?_
    show Go _ _ _ _ _ _ _ T756 (mkF m 120 #[.val (.int inn), .val (.int k1), .val (.int k2), .val (.int k3), .val (.int iv), .val (.int iw), .val (.int cn), .val (.ref b738), .unset, .unset] [.null])
    refine Go.step (X756.checkcastNull hx (g := (mkF m 120 #[.val (.int inn), .val (.int k1), .val (.int k2), .val (.int k3), .val (.int iv), .val (.int iw), .val (.int cn), .val (.ref b738), .unset, .unset] [.null])) rfl rfl (hb hby at_120)) ?_
    show Go _ _ _ _ _ _ _ T756 (mkF m 123 #[.val (.int inn), .val (.int k1), .val (.int k2), .val (.int k3), .val (.int iv), .val (.int iw), .val (.int cn), .val (.ref b738), .unset, .unset] [.null])
    refine Go.step (fun _ k => XS.astore X756.here hx rfl (hb hby at_123) rfl rfl (l' := #[.val (.int inn), .val (.int k1), .val (.int k2), .val (.int k3), .val (.int iv), .val (.int iw), .val (.int cn), .val (.ref b738), .val .null, .unset]) rfl k) ?_
    show Go _ _ _ _ _ _ _ T756 (mkF m 125 #[.val (.int inn), .val (.int k1), .val (.int k2), .val (.int k3), .val (.int iv), .val (.int iw), .val (.int cn), .val (.ref b738), .val .null, .unset] [])
    refine Go.step (fun _ k => XS.aload X756.here hx rfl (hb hby at_125) rfl rfl k) ?_
    refine Go.step (fun _ k => XS.ifnullYes X756.here hx rfl (pc0 := 127) (pc' := 132) rfl (hb hby at_127) rfl (by decide) (by decide) k) ?_
    show Go _ _ _ _ _ _ _ T756 (mkF m 132 #[.val (.int inn), .val (.int k1), .val (.int k2), .val (.int k3), .val (.int iv), .val (.int iw), .val (.int cn), .val (.ref b738), .val .null, .unset] [])
    refine Go.step (fun _ k => XS.aload X756.here hx rfl (hb hby at_132) rfl rfl k) ?_
    have f766 := (f757.keep Kq756)
    obtain ⟨cq765, kq765, q765a, q765b, q765c⟩ := isOf hZ e756 f766
    obtain ⟨_, _, ⟨T765, L765, k765, n765⟩, -, X765, ⟨Lc765, hQ765, l765, y765, z765⟩, st765⟩ := X756.virtualBack hx (y := (⟨"gatherwick/maps/GwTreeMap", "size", "()I"⟩ : MethodName)) (z := (⟨"gatherwick/maps/GwTreeMap", "size", "()I"⟩ : MethodName)) hown (mvT hZ (own_w hw 23 rfl)) (mvT hZ (own_w hw 24 rfl)) (notFace_of_selects (args := #[]) (mvT hZ (own_w hw 26 rfl))) (mvT hZ (own_w hw 26 rfl)) (mvT hZ (own_w hw 25 rfl)) (by decide) (backOf (W := 0) (rmSz l Z a0 hw [] b738 (1 : Int32) h756 n0 Z756 q_size_756) hZ (own_w hw 27 rfl) (own_w hw 2 rfl) (by decide) (by decide)) q765a q765c (g := (mkF m 134 #[.val (.int inn), .val (.int k1), .val (.int k2), .val (.int k3), .val (.int iv), .val (.int iw), .val (.int cn), .val (.ref b738), .val .null, .unset] [(.ref b738)])) rfl (by rw [hml]; rfl) (Steps.refl _) (argsL := []) (rest := []) (lenOf pd___I rfl) rfl (by show 2 * 0 + _ ≤ _; exact Nat.le_of_eq rfl) (hb hby at_134) (fun _ _ => ⟨rfl, e756, (by decide : 21 + 0 ≤ _), (by decide : 60 + 0 ≤ _)⟩)
    dsimp only [Pt.U, Pt.locs, Pt.cells, Pt.slots] at X765 l765 y765 z765 st765 hQ765
    subst l765 y765 z765
    obtain ⟨h765, e765⟩ : ∃ h, T765.heap = h := ⟨_, rfl⟩
    rw [e765] at hQ765
    obtain ⟨rfl, Nq765, hs765⟩ := hQ765
    have N765 := Fr.app N756 Nq765
    rw [hs765] at e765
    refine Go.trans st765 ?_
    show Go _ _ _ _ _ _ _ T765 (mkF m 137 #[.val (.int inn), .val (.int k1), .val (.int k2), .val (.int k3), .val (.int iv), .val (.int iw), .val (.int cn), .val (.ref b738), .val .null, .unset] [(.int (1 : Int32))])
    refine Go.step (fun _ k => XS.iconst X765.here hx rfl (hb hby at_137) k) ?_
    have hc138_767 : (1 : Int32) = (1 : Int32) := (by decide)
    refine Go.step (fun _ k => XS.icmpYes X765.here hx rfl (pc0 := 138) (pc' := 143) rfl (hb hby at_138) rfl (teq hc138_767).1 (by decide) (by decide) k) ?_
    show Go _ _ _ _ _ _ _ T765 (mkF m 143 #[.val (.int inn), .val (.int k1), .val (.int k2), .val (.int k3), .val (.int iv), .val (.int iw), .val (.int cn), .val (.ref b738), .val .null, .unset] [])
    refine Go.step (fun _ k => XS.aload X765.here hx rfl (hb hby at_143) rfl rfl k) ?_
    refine Go.step (fun _ k => XS.iloadN X765.here hx rfl (hb hby at_145) rfl k) ?_
    have f769 := ((f753.keep Kq752 all0).keep Kq756 (allS g_b738 all0))
    obtain ⟨_, _, ⟨T768, L768, k768, n768⟩, -, X768, ⟨Lc768, hQ768, l768, y768, z768⟩, st768⟩ := Jvm.LawKit.callS X765 hx (y := (⟨"java/lang/Integer", "valueOf", "(I)Ljava/lang/Integer;"⟩ : MethodName)) hown (mvT hZ (own_w hw 28 rfl)) (mvT hZ (own_w hw 29 rfl)) (mvT hZ (own_w hw 30 rfl)) (mvT hZ (own_w hw 31 rfl)) (by decide) (backOf (W := 1) (rmVo l Z a0 hw [] k1 ac cc h756 n0 Z756 f769 SH SC BX) hZ (own_w hw 31 rfl) (own_w hw 30 rfl) (by decide) (by decide)) (g := (mkF m 146 #[.val (.int inn), .val (.int k1), .val (.int k2), .val (.int k3), .val (.int iv), .val (.int iw), .val (.int cn), .val (.ref b738), .val .null, .unset] [(.int k1), (.ref b738)])) rfl (by rw [hml]; rfl) (argsL := [(.int k1)]) (rest := [(.ref b738)]) (lenOf pd__I_Ljava_lang_Integer_ rfl) rfl (by show 2 * 0 + _ ≤ _; exact Nat.le_of_eq rfl) (hb hby at_146) (fun _ _ => ⟨rfl, e765, (by decide : 21 + 1 ≤ _), (by decide : 60 + 1 ≤ _)⟩)
    dsimp only [Pt.U, Pt.locs, Pt.cells, Pt.slots] at X768 l768 y768 z768 st768 hQ768
    subst l768 y768 z768
    obtain ⟨h768, e768⟩ : ∃ h, T768.heap = h := ⟨_, rfl⟩
    rw [e768] at hQ768
    have f770 := (f764.keep Kq756)
    have f771 := (f762.keep Kq756)
    have f772 := (E1_752.keep Kq756)
    obtain ⟨ax_768, rfl, Nq768, Kq768, E1_768, F1_768⟩ := hQ768
    have N768 := Fr.app N765 Nq768
    have Z768 : n0 ≤ h768.size := Nat.le_trans Z756 Kq768.1
    refine Go.step st768 ?_
    show Go _ _ _ _ _ _ _ T768 (mkF m 149 #[.val (.int inn), .val (.int k1), .val (.int k2), .val (.int k3), .val (.int iv), .val (.int iw), .val (.int cn), .val (.ref b738), .val .null, .unset] [(.ref ax_768), (.ref b738)])
    have f774 := (f766.keep Kq768)
    have f775 := (q_comparator_756.keep Kq768 nin0)
    have f776 := (q_root_756.keep Kq768 nin0)
    have f777 := (b_key_756.keep Kq768 nin0)
    have f778 := (f771.keep Kq768)
    have nx779 : ax_750 ≠ b738 := Exa.ne f778 f774 (by decide)
    have f780 := ((f763.keep Kq756 (ninS nx779 nin0)).keep Kq768 nin0)
    have f781 := (b_value_756.keep Kq768 nin0)
    obtain ⟨cq773, kq773, q773a, q773b, q773c⟩ := isOf hZ e768 f774
    obtain ⟨_, _, ⟨T773, L773, k773, n773⟩, -, X773, ⟨Lc773, hQ773, l773, y773, z773⟩, st773⟩ := X768.virtualBack hx (y := (⟨"gatherwick/maps/GwTreeMap", "get", "(Ljava/lang/Object;)Ljava/lang/Object;"⟩ : MethodName)) (z := (⟨"gatherwick/maps/GwTreeMap", "get", "(Ljava/lang/Object;)Ljava/lang/Object;"⟩ : MethodName)) hown (mvT hZ (own_w hw 35 rfl)) (mvT hZ (own_w hw 36 rfl)) (notFace_of_selects (args := #[]) (mvT hZ (own_w hw 38 rfl))) (mvT hZ (own_w hw 38 rfl)) (mvT hZ (own_w hw 37 rfl)) (by decide) (backOf (W := 0) (rmHb l Z a0 hw [] b738 ax_768 k1 an_756 ax_750 ax_752 h768 n0 Z768 f774 f775 f776 E1_768 F1_768 f777 f778 f780 f781) hZ (own_w hw 39 rfl) (own_w hw 2 rfl) (by decide) (by decide)) q773a q773c (g := (mkF m 149 #[.val (.int inn), .val (.int k1), .val (.int k2), .val (.int k3), .val (.int iv), .val (.int iw), .val (.int cn), .val (.ref b738), .val .null, .unset] [(.ref ax_768), (.ref b738)])) rfl (by rw [hml]; rfl) (Steps.refl _) (argsL := [(.ref ax_768)]) (rest := []) (lenOf pd__Ljava_lang_Object__Ljava_lang_Object_ rfl) rfl (by show 2 * 0 + _ ≤ _; exact Nat.le_of_eq rfl) (hb hby at_149) (fun _ _ => ⟨rfl, e768, (by decide : 22 + 0 ≤ _), (by decide : 61 + 0 ≤ _)⟩)
    dsimp only [Pt.U, Pt.locs, Pt.cells, Pt.slots] at X773 l773 y773 z773 st773 hQ773
    subst l773 y773 z773
    obtain ⟨h773, e773⟩ : ∃ h, T773.heap = h := ⟨_, rfl⟩
    rw [e773] at hQ773
    obtain ⟨rfl, Nq773, hs773⟩ := hQ773
    have N773 := Fr.app N768 Nq773
    rw [hs773] at e773
    refine Go.trans st773 ?_
    show Go _ _ _ _ _ _ _ T773 (mkF m 152 #[.val (.int inn), .val (.int k1), .val (.int k2), .val (.int k3), .val (.int iv), .val (.int iw), .val (.int cn), .val (.ref b738), .val .null, .unset] [(.ref ax_752)])
    have f782 := (f772.keep Kq768)
    obtain ⟨T783, X783, e783, st783⟩ := castY X773 hx hZ hown (own_w hw 158 rfl) e773 (Ins.self f782) (g := (mkF m 152 #[.val (.int inn), .val (.int k1), .val (.int k2), .val (.int k3), .val (.int iv), .val (.int iw), .val (.int cn), .val (.ref b738), .val .null, .unset] [(.ref ax_752)])) rfl rfl (hb hby at_152)
    refine Go.step st783 ?_
    show Go _ _ _ _ _ _ _ T783 (mkF m 155 #[.val (.int inn), .val (.int k1), .val (.int k2), .val (.int k3), .val (.int iv), .val (.int iw), .val (.int cn), .val (.ref b738), .val .null, .unset] [(.ref ax_752)])
    refine Go.step (fun _ k => XS.astore X783.here hx rfl (hb hby at_155) rfl rfl (l' := #[.val (.int inn), .val (.int k1), .val (.int k2), .val (.int k3), .val (.int iv), .val (.int iw), .val (.int cn), .val (.ref b738), .val .null, .val (.ref ax_752)]) rfl k) ?_
    show Go _ _ _ _ _ _ _ T783 (mkF m 157 #[.val (.int inn), .val (.int k1), .val (.int k2), .val (.int k3), .val (.int iv), .val (.int iw), .val (.int cn), .val (.ref b738), .val .null, .val (.ref ax_752)] [])
    refine Go.step (fun _ k => XS.aload X783.here hx rfl (hb hby at_157) rfl rfl k) ?_
    refine Go.step (fun _ k => XS.ifnullNo X783.here hx rfl (hb hby at_159) rfl k) ?_
    show Go _ _ _ _ _ _ _ T783 (mkF m 162 #[.val (.int inn), .val (.int k1), .val (.int k2), .val (.int k3), .val (.int iv), .val (.int iw), .val (.int cn), .val (.ref b738), .val .null, .val (.ref ax_752)] [])
    refine Go.step (fun _ k => XS.aload X783.here hx rfl (hb hby at_162) rfl rfl k) ?_
    have nx785 : ax_752 ≠ b738 := Exa.ne f782 f774 (by decide)
    have f786 := ((F1_752.keep Kq756 (ninS nx785 nin0)).keep Kq768 nin0)
    obtain ⟨cq784, kq784, q784a, q784b, q784c⟩ := isOf hZ e783 f782
    obtain ⟨_, _, ⟨T784, L784, k784, n784⟩, -, X784, ⟨Lc784, hQ784, l784, y784, z784⟩, st784⟩ := X783.virtualBack hx (y := (⟨"java/lang/Integer", "intValue", "()I"⟩ : MethodName)) (z := (⟨"java/lang/Integer", "intValue", "()I"⟩ : MethodName)) hown (mvT hZ (own_w hw 159 rfl)) (mvT hZ (own_w hw 160 rfl)) (notFace_of_selects (args := #[]) (mvT hZ (own_w hw 162 rfl))) (mvT hZ (own_w hw 162 rfl)) (mvT hZ (own_w hw 161 rfl)) (by decide) (backOf (W := 0) (rmIv l Z a0 hw [] ax_752 iw h768 n0 Z768 f786) hZ (own_w hw 163 rfl) (own_w hw 30 rfl) (by decide) (by decide)) q784a q784c (g := (mkF m 164 #[.val (.int inn), .val (.int k1), .val (.int k2), .val (.int k3), .val (.int iv), .val (.int iw), .val (.int cn), .val (.ref b738), .val .null, .val (.ref ax_752)] [(.ref ax_752)])) rfl (by rw [hml]; rfl) (Steps.refl _) (argsL := []) (rest := []) (lenOf pd___I rfl) rfl (by show 2 * 0 + _ ≤ _; exact Nat.le_of_eq rfl) (hb hby at_164) (fun _ _ => ⟨rfl, e783, (by decide : 22 + 0 ≤ _), (by decide : 61 + 0 ≤ _)⟩)
    dsimp only [Pt.U, Pt.locs, Pt.cells, Pt.slots] at X784 l784 y784 z784 st784 hQ784
    subst l784 y784 z784
    obtain ⟨h784, e784⟩ : ∃ h, T784.heap = h := ⟨_, rfl⟩
    rw [e784] at hQ784
    obtain ⟨rfl, Nq784, hs784⟩ := hQ784
    have N784 := Fr.app N773 Nq784
    rw [hs784] at e784
    refine Go.trans st784 ?_
    show Go _ _ _ _ _ _ _ T784 (mkF m 167 #[.val (.int inn), .val (.int k1), .val (.int k2), .val (.int k3), .val (.int iv), .val (.int iw), .val (.int cn), .val (.ref b738), .val .null, .val (.ref ax_752)] [(.int iw)])
    refine Go.step (fun _ k => XS.iload X784.here hx rfl (hb hby at_167) rfl k) ?_
    have hc169_787 : iw = iw := rfl
    refine Go.step (fun _ k => XS.icmpNo X784.here hx rfl (hb hby at_169) rfl (teq hc169_787).2 k) ?_
    show Go _ _ _ _ _ _ _ T784 (mkF m 172 #[.val (.int inn), .val (.int k1), .val (.int k2), .val (.int k3), .val (.int iv), .val (.int iw), .val (.int cn), .val (.ref b738), .val .null, .val (.ref ax_752)] [])
    refine Go.step (fun _ k => XS.iconst X784.here hx rfl (hb hby at_172) k) ?_
    refine Go.step (fun _ k => XS.goto X784.here hx rfl (pc0 := 173) (pc' := 177) rfl (hb hby at_173) (by decide) (by decide) k) ?_
    show Go _ _ _ _ _ _ _ T784 (mkF m 177 #[.val (.int inn), .val (.int k1), .val (.int k2), .val (.int k3), .val (.int iv), .val (.int iw), .val (.int cn), .val (.ref b738), .val .null, .val (.ref ax_752)] [(.int (1 : Int32))])
    exact Go.retN X784 hx (t := .boolean) hret hlk (by simp) (hb hby at_177) e784 (by decide) (by decide) ⟨rfl, N784, trivial⟩
  show Go _ _ _ _ _ _ _ T739 (mkF m 14 #[.val (.int inn), .val (.int k1), .val (.int k2), .val (.int k3), .val (.int iv), .val (.int iw), .val (.int cn), .val (.ref b738), .unset, .unset] [])
  refine Go.step (fun _ k => XS.iload X739.here hx rfl (hb hby at_14) rfl k) ?_
  refine Go.step (fun _ k => XS.iconst X739.here hx rfl (hb hby at_16) k) ?_
  by_cases hc17_788 : cn < (1 : Int32)
  · refine Go.step (fun _ k => XS.icmpYes X739.here hx rfl (pc0 := 17) (pc' := 35) rfl (hb hby at_17) rfl (tlt hc17_788).1 (by decide) (by decide) k) ?_
    show Go _ _ _ _ _ _ _ T739 (mkF m 35 #[.val (.int inn), .val (.int k1), .val (.int k2), .val (.int k3), .val (.int iv), .val (.int iw), .val (.int cn), .val (.ref b738), .unset, .unset] [])
    refine Go.step (fun _ k => XS.iload X739.here hx rfl (hb hby at_35) rfl k) ?_
    refine Go.step (fun _ k => XS.iconst X739.here hx rfl (hb hby at_37) k) ?_
    have hc38_789 : cn < (2 : Int32) := (own_ar5 cn hc17_788)
    refine Go.step (fun _ k => XS.icmpYes X739.here hx rfl (pc0 := 38) (pc' := 56) rfl (hb hby at_38) rfl (tlt hc38_789).1 (by decide) (by decide) k) ?_
    show Go _ _ _ _ _ _ _ T739 (mkF m 56 #[.val (.int inn), .val (.int k1), .val (.int k2), .val (.int k3), .val (.int iv), .val (.int iw), .val (.int cn), .val (.ref b738), .unset, .unset] [])
    refine Go.step (fun _ k => XS.iload X739.here hx rfl (hb hby at_56) rfl k) ?_
    refine Go.step (fun _ k => XS.iconst X739.here hx rfl (hb hby at_58) k) ?_
    have hc59_790 : cn < (3 : Int32) := (own_ar6 cn hc38_789)
    refine Go.step (fun _ k => XS.icmpYes X739.here hx rfl (pc0 := 59) (pc' := 77) rfl (hb hby at_59) rfl (tlt hc59_790).1 (by decide) (by decide) k) ?_
    show Go _ _ _ _ _ _ _ T739 (mkF m 77 #[.val (.int inn), .val (.int k1), .val (.int k2), .val (.int k3), .val (.int iv), .val (.int iw), .val (.int cn), .val (.ref b738), .unset, .unset] [])
    have f791 := (A738.keep Kq739)
    have f792 := ((O0.ext E738).keep Kq739 (allS g_b738 all0))
    exact J T739 h739 _ .null (0 : Int32) (0 : Int32) (X739.more (by decide) (by decide)) e739 N739 Z739 f791 b_comparator_739 b_root_739 b_size_739 b_modCount_739 f792 (fun _ => ⟨rfl, rfl⟩)
  · refine Go.step (fun _ k => XS.icmpNo X739.here hx rfl (hb hby at_17) rfl (flt hc17_788).1 k) ?_
    show Go _ _ _ _ _ _ _ T739 (mkF m 20 #[.val (.int inn), .val (.int k1), .val (.int k2), .val (.int k3), .val (.int iv), .val (.int iw), .val (.int cn), .val (.ref b738), .unset, .unset] [])
    refine Go.step (fun _ k => XS.aload X739.here hx rfl (hb hby at_20) rfl rfl k) ?_
    refine Go.step (fun _ k => XS.iloadN X739.here hx rfl (hb hby at_22) rfl k) ?_
    have f794 := ((O0.ext E738).keep Kq739 (allS g_b738 all0))
    obtain ⟨_, _, ⟨T793, L793, k793, n793⟩, -, X793, ⟨Lc793, hQ793, l793, y793, z793⟩, st793⟩ := Jvm.LawKit.callS X739 hx (y := (⟨"java/lang/Integer", "valueOf", "(I)Ljava/lang/Integer;"⟩ : MethodName)) hown (mvT hZ (own_w hw 28 rfl)) (mvT hZ (own_w hw 29 rfl)) (mvT hZ (own_w hw 30 rfl)) (mvT hZ (own_w hw 31 rfl)) (by decide) (backOf (W := 1) (rmVo l Z a0 hw [] k1 ac cc h739 n0 Z739 f794 SH SC BX) hZ (own_w hw 31 rfl) (own_w hw 30 rfl) (by decide) (by decide)) (g := (mkF m 23 #[.val (.int inn), .val (.int k1), .val (.int k2), .val (.int k3), .val (.int iv), .val (.int iw), .val (.int cn), .val (.ref b738), .unset, .unset] [(.int k1), (.ref b738)])) rfl (by rw [hml]; rfl) (argsL := [(.int k1)]) (rest := [(.ref b738)]) (lenOf pd__I_Ljava_lang_Integer_ rfl) rfl (by show 2 * 0 + _ ≤ _; exact Nat.le_of_eq rfl) (hb hby at_23) (fun _ _ => ⟨rfl, e739, (by decide : 1 + 1 ≤ _), (by decide : 5 + 1 ≤ _)⟩)
    dsimp only [Pt.U, Pt.locs, Pt.cells, Pt.slots] at X793 l793 y793 z793 st793 hQ793
    subst l793 y793 z793
    obtain ⟨h793, e793⟩ : ∃ h, T793.heap = h := ⟨_, rfl⟩
    rw [e793] at hQ793
    have f795 := (A738.keep Kq739)
    obtain ⟨ax_793, rfl, Nq793, Kq793, E1_793, F1_793⟩ := hQ793
    have N793 := Fr.app N739 Nq793
    have Z793 : n0 ≤ h793.size := Nat.le_trans Z739 Kq793.1
    refine Go.step st793 ?_
    show Go _ _ _ _ _ _ _ T793 (mkF m 26 #[.val (.int inn), .val (.int k1), .val (.int k2), .val (.int k3), .val (.int iv), .val (.int iw), .val (.int cn), .val (.ref b738), .unset, .unset] [(.ref ax_793), (.ref b738)])
    refine Go.step (fun _ k => XS.iload X793.here hx rfl (hb hby at_26) rfl k) ?_
    have f797 := (f794.keep Kq793 all0)
    obtain ⟨_, _, ⟨T796, L796, k796, n796⟩, -, X796, ⟨Lc796, hQ796, l796, y796, z796⟩, st796⟩ := Jvm.LawKit.callS X793 hx (y := (⟨"java/lang/Integer", "valueOf", "(I)Ljava/lang/Integer;"⟩ : MethodName)) hown (mvT hZ (own_w hw 28 rfl)) (mvT hZ (own_w hw 29 rfl)) (mvT hZ (own_w hw 30 rfl)) (mvT hZ (own_w hw 31 rfl)) (by decide) (backOf (W := 2) (rmVo l Z a0 hw [] iv ac cc h793 n0 Z793 f797 SH SC BX) hZ (own_w hw 31 rfl) (own_w hw 30 rfl) (by decide) (by decide)) (g := (mkF m 28 #[.val (.int inn), .val (.int k1), .val (.int k2), .val (.int k3), .val (.int iv), .val (.int iw), .val (.int cn), .val (.ref b738), .unset, .unset] [(.int iv), (.ref ax_793), (.ref b738)])) rfl (by rw [hml]; rfl) (argsL := [(.int iv)]) (rest := [(.ref ax_793), (.ref b738)]) (lenOf pd__I_Ljava_lang_Integer_ rfl) rfl (by show 2 * 0 + _ ≤ _; exact Nat.le_of_eq rfl) (hb hby at_28) (fun _ _ => ⟨rfl, e793, (by decide : 2 + 1 ≤ _), (by decide : 6 + 1 ≤ _)⟩)
    dsimp only [Pt.U, Pt.locs, Pt.cells, Pt.slots] at X796 l796 y796 z796 st796 hQ796
    subst l796 y796 z796
    obtain ⟨h796, e796⟩ : ∃ h, T796.heap = h := ⟨_, rfl⟩
    rw [e796] at hQ796
    have f798 := (f795.keep Kq793)
    obtain ⟨ax_796, rfl, Nq796, Kq796, E1_796, F1_796⟩ := hQ796
    have N796 := Fr.app N793 Nq796
    have Z796 : n0 ≤ h796.size := Nat.le_trans Z793 Kq796.1
    refine Go.step st796 ?_
    show Go _ _ _ _ _ _ _ T796 (mkF m 31 #[.val (.int inn), .val (.int k1), .val (.int k2), .val (.int k3), .val (.int iv), .val (.int iw), .val (.int cn), .val (.ref b738), .unset, .unset] [(.ref ax_796), (.ref ax_793), (.ref b738)])
    have f800 := (f798.keep Kq796)
    have f801 := ((b_comparator_739.keep Kq793 nin0).keep Kq796 nin0)
    have f802 := ((b_root_739.keep Kq793 nin0).keep Kq796 nin0)
    have f803 := ((b_size_739.keep Kq793 nin0).keep Kq796 nin0)
    have f804 := ((b_modCount_739.keep Kq793 nin0).keep Kq796 nin0)
    have f805 := (E1_793.keep Kq796)
    have f806 := (F1_793.keep Kq796 nin0)
    obtain ⟨cq799, kq799, q799a, q799b, q799c⟩ := isOf hZ e796 f800
    obtain ⟨_, _, ⟨T799, L799, k799, n799⟩, -, X799, ⟨Lc799, hQ799, l799, y799, z799⟩, st799⟩ := X796.virtualBack hx (y := (⟨"gatherwick/maps/GwTreeMap", "put", "(Ljava/lang/Object;Ljava/lang/Object;)Ljava/lang/Object;"⟩ : MethodName)) (z := (⟨"gatherwick/maps/GwTreeMap", "put", "(Ljava/lang/Object;Ljava/lang/Object;)Ljava/lang/Object;"⟩ : MethodName)) hown (mvT hZ (own_w hw 84 rfl)) (mvT hZ (own_w hw 85 rfl)) (notFace_of_selects (args := #[]) (mvT hZ (own_w hw 87 rfl))) (mvT hZ (own_w hw 87 rfl)) (mvT hZ (own_w hw 86 rfl)) (by decide) (backOf (W := 0) (rmUZ l Z a0 hw [] b738 ax_793 ax_796 k1 (0 : Int32) (0 : Int32) h796 n0 Z796 f800 g_b738 f801 f802 f803 f804 f805 f806 trivial rfl rfl rfl (by decide)) hZ (own_w hw 88 rfl) (own_w hw 2 rfl) (by decide) (by decide)) q799a q799c (g := (mkF m 31 #[.val (.int inn), .val (.int k1), .val (.int k2), .val (.int k3), .val (.int iv), .val (.int iw), .val (.int cn), .val (.ref b738), .unset, .unset] [(.ref ax_796), (.ref ax_793), (.ref b738)])) rfl (by rw [hml]; rfl) (Steps.refl _) (argsL := [(.ref ax_793), (.ref ax_796)]) (rest := []) (lenOf pd__Ljava_lang_Object_Ljava_lang_Object__Ljava_lang_Object_ rfl) rfl (by show 2 * 0 + _ ≤ _; exact Nat.le_of_eq rfl) (hb hby at_31) (fun _ _ => ⟨rfl, e796, (by decide : 3 + 2 ≤ _), (by decide : 7 + 9 ≤ _)⟩)
    dsimp only [Pt.U, Pt.locs, Pt.cells, Pt.slots] at X799 l799 y799 z799 st799 hQ799
    subst l799 y799 z799
    obtain ⟨h799, e799⟩ : ∃ h, T799.heap = h := ⟨_, rfl⟩
    rw [e799] at hQ799
    obtain ⟨an_799, rfl, Nq799, Kq799, szn_799, E_n_799, b_key_799, b_value_799, b_left_799, b_right_799, b_parent_799, b_red_799, q_comparator_799, q_root_799, q_size_799, q_modCount_799⟩ := hQ799
    have N799 := Fr.app N796 Nq799
    have Z799 : n0 ≤ h799.size := Nat.le_trans Z796 Kq799.1
    have g_an_799 : n0 ≤ an_799 := Nat.le_trans Z796 szn_799
    have ne_ax_793_an_799 : ax_793 ≠ an_799 := Nat.ne_of_lt (Nat.lt_of_lt_of_le f805.lt szn_799)
    have ne_ax_796_an_799 : ax_796 ≠ an_799 := Nat.ne_of_lt (Nat.lt_of_lt_of_le E1_796.lt szn_799)
    have ne_b738_an_799 : b738 ≠ an_799 := Nat.ne_of_lt (Nat.lt_of_lt_of_le f800.lt szn_799)
    have q_size_799 : Fld Z h799 b738 "gatherwick/maps/GwTreeMap" "size" "I" (.int (1 : Int32)) := q_size_799
    have q_modCount_799 : Fld Z h799 b738 "gatherwick/maps/GwTreeMap" "modCount" "I" (.int (1 : Int32)) := q_modCount_799
    refine Go.trans st799 ?_
    show Go _ _ _ _ _ _ _ T799 (mkF m 34 #[.val (.int inn), .val (.int k1), .val (.int k2), .val (.int k3), .val (.int iv), .val (.int iw), .val (.int cn), .val (.ref b738), .unset, .unset] [.null])
    refine Go.step (fun _ k => XS.pop X799.here hx rfl (hb hby at_34) rfl rfl k) ?_
    show Go _ _ _ _ _ _ _ T799 (mkF m 35 #[.val (.int inn), .val (.int k1), .val (.int k2), .val (.int k3), .val (.int iv), .val (.int iw), .val (.int cn), .val (.ref b738), .unset, .unset] [])
    refine Go.step (fun _ k => XS.iload X799.here hx rfl (hb hby at_35) rfl k) ?_
    refine Go.step (fun _ k => XS.iconst X799.here hx rfl (hb hby at_37) k) ?_
    by_cases hc38_807 : cn < (2 : Int32)
    · refine Go.step (fun _ k => XS.icmpYes X799.here hx rfl (pc0 := 38) (pc' := 56) rfl (hb hby at_38) rfl (tlt hc38_807).1 (by decide) (by decide) k) ?_
      show Go _ _ _ _ _ _ _ T799 (mkF m 56 #[.val (.int inn), .val (.int k1), .val (.int k2), .val (.int k3), .val (.int iv), .val (.int iw), .val (.int cn), .val (.ref b738), .unset, .unset] [])
      refine Go.step (fun _ k => XS.iload X799.here hx rfl (hb hby at_56) rfl k) ?_
      refine Go.step (fun _ k => XS.iconst X799.here hx rfl (hb hby at_58) k) ?_
      have hc59_808 : cn < (3 : Int32) := (own_ar7 cn hc38_807)
      refine Go.step (fun _ k => XS.icmpYes X799.here hx rfl (pc0 := 59) (pc' := 77) rfl (hb hby at_59) rfl (tlt hc59_808).1 (by decide) (by decide) k) ?_
      show Go _ _ _ _ _ _ _ T799 (mkF m 77 #[.val (.int inn), .val (.int k1), .val (.int k2), .val (.int k3), .val (.int iv), .val (.int iw), .val (.int cn), .val (.ref b738), .unset, .unset] [])
      have f809 := (f800.keep Kq799)
      have f810 := ((f797.keep Kq796 all0).keep Kq799 (allS g_b738 all0))
      exact J T799 h799 _ (.ref an_799) (1 : Int32) (1 : Int32) (X799.more (by decide) (by decide)) e799 N799 Z799 f809 q_comparator_799 q_root_799 q_size_799 q_modCount_799 f810 (fun q => absurd (by decide) q)
    · refine Go.step (fun _ k => XS.icmpNo X799.here hx rfl (hb hby at_38) rfl (flt hc38_807).1 k) ?_
      show Go _ _ _ _ _ _ _ T799 (mkF m 41 #[.val (.int inn), .val (.int k1), .val (.int k2), .val (.int k3), .val (.int iv), .val (.int iw), .val (.int cn), .val (.ref b738), .unset, .unset] [])
      refine Go.step (fun _ k => XS.aload X799.here hx rfl (hb hby at_41) rfl rfl k) ?_
      refine Go.step (fun _ k => XS.iloadN X799.here hx rfl (hb hby at_43) rfl k) ?_
      have f812 := ((f797.keep Kq796 all0).keep Kq799 (allS g_b738 all0))
      obtain ⟨_, _, ⟨T811, L811, k811, n811⟩, -, X811, ⟨Lc811, hQ811, l811, y811, z811⟩, st811⟩ := Jvm.LawKit.callS X799 hx (y := (⟨"java/lang/Integer", "valueOf", "(I)Ljava/lang/Integer;"⟩ : MethodName)) hown (mvT hZ (own_w hw 28 rfl)) (mvT hZ (own_w hw 29 rfl)) (mvT hZ (own_w hw 30 rfl)) (mvT hZ (own_w hw 31 rfl)) (by decide) (backOf (W := 1) (rmVo l Z a0 hw [] k2 ac cc h799 n0 Z799 f812 SH SC BX) hZ (own_w hw 31 rfl) (own_w hw 30 rfl) (by decide) (by decide)) (g := (mkF m 44 #[.val (.int inn), .val (.int k1), .val (.int k2), .val (.int k3), .val (.int iv), .val (.int iw), .val (.int cn), .val (.ref b738), .unset, .unset] [(.int k2), (.ref b738)])) rfl (by rw [hml]; rfl) (argsL := [(.int k2)]) (rest := [(.ref b738)]) (lenOf pd__I_Ljava_lang_Integer_ rfl) rfl (by show 2 * 0 + _ ≤ _; exact Nat.le_of_eq rfl) (hb hby at_44) (fun _ _ => ⟨rfl, e799, (by decide : 5 + 1 ≤ _), (by decide : 16 + 1 ≤ _)⟩)
      dsimp only [Pt.U, Pt.locs, Pt.cells, Pt.slots] at X811 l811 y811 z811 st811 hQ811
      subst l811 y811 z811
      obtain ⟨h811, e811⟩ : ∃ h, T811.heap = h := ⟨_, rfl⟩
      rw [e811] at hQ811
      have f813 := (f805.keep Kq799)
      have f814 := (E1_796.keep Kq799)
      have f815 := (f800.keep Kq799)
      obtain ⟨ax_811, rfl, Nq811, Kq811, E1_811, F1_811⟩ := hQ811
      have N811 := Fr.app N799 Nq811
      have Z811 : n0 ≤ h811.size := Nat.le_trans Z799 Kq811.1
      refine Go.step st811 ?_
      show Go _ _ _ _ _ _ _ T811 (mkF m 47 #[.val (.int inn), .val (.int k1), .val (.int k2), .val (.int k3), .val (.int iv), .val (.int iw), .val (.int cn), .val (.ref b738), .unset, .unset] [(.ref ax_811), (.ref b738)])
      refine Go.step (fun _ k => XS.iload X811.here hx rfl (hb hby at_47) rfl k) ?_
      have f817 := (f812.keep Kq811 all0)
      obtain ⟨_, _, ⟨T816, L816, k816, n816⟩, -, X816, ⟨Lc816, hQ816, l816, y816, z816⟩, st816⟩ := Jvm.LawKit.callS X811 hx (y := (⟨"java/lang/Integer", "valueOf", "(I)Ljava/lang/Integer;"⟩ : MethodName)) hown (mvT hZ (own_w hw 28 rfl)) (mvT hZ (own_w hw 29 rfl)) (mvT hZ (own_w hw 30 rfl)) (mvT hZ (own_w hw 31 rfl)) (by decide) (backOf (W := 2) (rmVo l Z a0 hw [] iv ac cc h811 n0 Z811 f817 SH SC BX) hZ (own_w hw 31 rfl) (own_w hw 30 rfl) (by decide) (by decide)) (g := (mkF m 49 #[.val (.int inn), .val (.int k1), .val (.int k2), .val (.int k3), .val (.int iv), .val (.int iw), .val (.int cn), .val (.ref b738), .unset, .unset] [(.int iv), (.ref ax_811), (.ref b738)])) rfl (by rw [hml]; rfl) (argsL := [(.int iv)]) (rest := [(.ref ax_811), (.ref b738)]) (lenOf pd__I_Ljava_lang_Integer_ rfl) rfl (by show 2 * 0 + _ ≤ _; exact Nat.le_of_eq rfl) (hb hby at_49) (fun _ _ => ⟨rfl, e811, (by decide : 6 + 1 ≤ _), (by decide : 17 + 1 ≤ _)⟩)
      dsimp only [Pt.U, Pt.locs, Pt.cells, Pt.slots] at X816 l816 y816 z816 st816 hQ816
      subst l816 y816 z816
      obtain ⟨h816, e816⟩ : ∃ h, T816.heap = h := ⟨_, rfl⟩
      rw [e816] at hQ816
      have f818 := (E_n_799.keep Kq811)
      have f819 := (f813.keep Kq811)
      have f820 := (f814.keep Kq811)
      have f821 := (f815.keep Kq811)
      obtain ⟨ax_816, rfl, Nq816, Kq816, E1_816, F1_816⟩ := hQ816
      have N816 := Fr.app N811 Nq816
      have Z816 : n0 ≤ h816.size := Nat.le_trans Z811 Kq816.1
      refine Go.step st816 ?_
      show Go _ _ _ _ _ _ _ T816 (mkF m 52 #[.val (.int inn), .val (.int k1), .val (.int k2), .val (.int k3), .val (.int iv), .val (.int iw), .val (.int cn), .val (.ref b738), .unset, .unset] [(.ref ax_816), (.ref ax_811), (.ref b738)])
      rcases own_tri k2 k1 with q2 | q2 | q2
      · show Go _ _ _ _ _ _ _ T816 (mkF m 52 #[.val (.int inn), .val (.int k1), .val (.int k2), .val (.int k3), .val (.int iv), .val (.int iw), .val (.int cn), .val (.ref b738), .unset, .unset] [(.ref ax_816), (.ref ax_811), (.ref b738)])
        have f822 := ((b_left_799.keep Kq811 nin0).keep Kq816 nin0)
        have f823 := ((b_right_799.keep Kq811 nin0).keep Kq816 nin0)
        have f824 := (f818.keep Kq816)
        have f825 := ((b_key_799.keep Kq811 nin0).keep Kq816 nin0)
        have f826 := (f819.keep Kq816)
        have f827 := (f821.keep Kq816)
        have nx828 : ax_793 ≠ b738 := Exa.ne f826 f827 (by decide)
        have f829 := (((f806.keep Kq799 (ninS nx828 nin0)).keep Kq811 nin0).keep Kq816 nin0)
        have f831 := ((q_comparator_799.keep Kq811 nin0).keep Kq816 nin0)
        have f832 := ((q_root_799.keep Kq811 nin0).keep Kq816 nin0)
        have f833 := (E1_811.keep Kq816)
        have f834 := (F1_811.keep Kq816 nin0)
        have f835 := ((b_value_799.keep Kq811 nin0).keep Kq816 nin0)
        have f836 := ((b_parent_799.keep Kq811 nin0).keep Kq816 nin0)
        have f837 := ((b_red_799.keep Kq811 nin0).keep Kq816 nin0)
        obtain ⟨cq830, kq830, q830a, q830b, q830c⟩ := isOf hZ e816 f827
        obtain ⟨_, _, ⟨T830, L830, k830, n830⟩, -, X830, ⟨Lc830, hQ830, l830, y830, z830⟩, st830⟩ := X816.virtualBack hx (y := (⟨"gatherwick/maps/GwTreeMap", "put", "(Ljava/lang/Object;Ljava/lang/Object;)Ljava/lang/Object;"⟩ : MethodName)) (z := (⟨"gatherwick/maps/GwTreeMap", "put", "(Ljava/lang/Object;Ljava/lang/Object;)Ljava/lang/Object;"⟩ : MethodName)) hown (mvT hZ (own_w hw 84 rfl)) (mvT hZ (own_w hw 85 rfl)) (notFace_of_selects (args := #[]) (mvT hZ (own_w hw 87 rfl))) (mvT hZ (own_w hw 87 rfl)) (mvT hZ (own_w hw 86 rfl)) (by decide) (backOf (W := 0) (rmUE l Z a0 hw [] b738 ax_811 ax_816 k2 [(an_799, ax_793, k1)] an_799 ax_793 ax_796 .null .null .null (0 : Int32) h816 n0 Z816 f827 f831 f832 f833 f834 ⟨f824, f825, f826, f829, (fun z => absurd q2 (own_ltne z)), (fun z => absurd q2 (own_gtne z)), trivial⟩ ((own_sn_eq q2)) f824 g_an_799 f825 f835 f822 f823 f836 f837) hZ (own_w hw 88 rfl) (own_w hw 2 rfl) (by decide) (by decide)) q830a q830c (g := (mkF m 52 #[.val (.int inn), .val (.int k1), .val (.int k2), .val (.int k3), .val (.int iv), .val (.int iw), .val (.int cn), .val (.ref b738), .unset, .unset] [(.ref ax_816), (.ref ax_811), (.ref b738)])) rfl (by rw [hml]; rfl) (Steps.refl _) (argsL := [(.ref ax_811), (.ref ax_816)]) (rest := []) (lenOf pd__Ljava_lang_Object_Ljava_lang_Object__Ljava_lang_Object_ rfl) rfl (by show 2 * 0 + _ ≤ _; exact Nat.le_of_eq rfl) (hb hby at_52) (fun _ _ => ⟨rfl, e816, (by decide : 7 + 1 ≤ _), (by decide : 18 + 3 ≤ _)⟩)
        dsimp only [Pt.U, Pt.locs, Pt.cells, Pt.slots] at X830 l830 y830 z830 st830 hQ830
        subst l830 y830 z830
        obtain ⟨h830, e830⟩ : ∃ h, T830.heap = h := ⟨_, rfl⟩
        rw [e830] at hQ830
        obtain ⟨rfl, Nq830, Kq830, b_key_830, b_value_830, b_left_830, b_right_830, b_parent_830, b_red_830⟩ := hQ830
        have N830 := Fr.app N816 Nq830
        have Z830 : n0 ≤ h830.size := Nat.le_trans Z816 Kq830.1
        have b_red_830 : Fld Z h830 an_799 "gatherwick/maps/RedBlackTree$Node" "red" "Z" (.int (0 : Int32)) := b_red_830
        refine Go.trans st830 ?_
        show Go _ _ _ _ _ _ _ T830 (mkF m 55 #[.val (.int inn), .val (.int k1), .val (.int k2), .val (.int k3), .val (.int iv), .val (.int iw), .val (.int cn), .val (.ref b738), .unset, .unset] [(.ref ax_796)])
        refine Go.step (fun _ k => XS.pop X830.here hx rfl (hb hby at_55) rfl rfl k) ?_
        show Go _ _ _ _ _ _ _ T830 (mkF m 56 #[.val (.int inn), .val (.int k1), .val (.int k2), .val (.int k3), .val (.int iv), .val (.int iw), .val (.int cn), .val (.ref b738), .unset, .unset] [])
        refine Go.step (fun _ k => XS.iload X830.here hx rfl (hb hby at_56) rfl k) ?_
        refine Go.step (fun _ k => XS.iconst X830.here hx rfl (hb hby at_58) k) ?_
        by_cases hc59_838 : cn < (3 : Int32)
        · refine Go.step (fun _ k => XS.icmpYes X830.here hx rfl (pc0 := 59) (pc' := 77) rfl (hb hby at_59) rfl (tlt hc59_838).1 (by decide) (by decide) k) ?_
          show Go _ _ _ _ _ _ _ T830 (mkF m 77 #[.val (.int inn), .val (.int k1), .val (.int k2), .val (.int k3), .val (.int iv), .val (.int iw), .val (.int cn), .val (.ref b738), .unset, .unset] [])
          have f839 := (f827.keep Kq830)
          have f840 := (f831.keep Kq830 (ninS ne_b738_an_799 nin0))
          have f841 := (f832.keep Kq830 (ninS ne_b738_an_799 nin0))
          have f842 := (((q_size_799.keep Kq811 nin0).keep Kq816 nin0).keep Kq830 (ninS ne_b738_an_799 nin0))
          have f843 := (((q_modCount_799.keep Kq811 nin0).keep Kq816 nin0).keep Kq830 (ninS ne_b738_an_799 nin0))
          have f844 := ((f817.keep Kq816 all0).keep Kq830 (allS g_an_799 all0))
          exact J T830 h830 _ (.ref an_799) (1 : Int32) (1 : Int32) (X830.more (by decide) (by decide)) e830 N830 Z830 f839 f840 f841 f842 f843 f844 (fun q => absurd (by decide) q)
        · refine Go.step (fun _ k => XS.icmpNo X830.here hx rfl (hb hby at_59) rfl (flt hc59_838).1 k) ?_
          show Go _ _ _ _ _ _ _ T830 (mkF m 62 #[.val (.int inn), .val (.int k1), .val (.int k2), .val (.int k3), .val (.int iv), .val (.int iw), .val (.int cn), .val (.ref b738), .unset, .unset] [])
          refine Go.step (fun _ k => XS.aload X830.here hx rfl (hb hby at_62) rfl rfl k) ?_
          refine Go.step (fun _ k => XS.iloadN X830.here hx rfl (hb hby at_64) rfl k) ?_
          have f846 := ((f817.keep Kq816 all0).keep Kq830 (allS g_an_799 all0))
          obtain ⟨_, _, ⟨T845, L845, k845, n845⟩, -, X845, ⟨Lc845, hQ845, l845, y845, z845⟩, st845⟩ := Jvm.LawKit.callS X830 hx (y := (⟨"java/lang/Integer", "valueOf", "(I)Ljava/lang/Integer;"⟩ : MethodName)) hown (mvT hZ (own_w hw 28 rfl)) (mvT hZ (own_w hw 29 rfl)) (mvT hZ (own_w hw 30 rfl)) (mvT hZ (own_w hw 31 rfl)) (by decide) (backOf (W := 1) (rmVo l Z a0 hw [] k3 ac cc h830 n0 Z830 f846 SH SC BX) hZ (own_w hw 31 rfl) (own_w hw 30 rfl) (by decide) (by decide)) (g := (mkF m 65 #[.val (.int inn), .val (.int k1), .val (.int k2), .val (.int k3), .val (.int iv), .val (.int iw), .val (.int cn), .val (.ref b738), .unset, .unset] [(.int k3), (.ref b738)])) rfl (by rw [hml]; rfl) (argsL := [(.int k3)]) (rest := [(.ref b738)]) (lenOf pd__I_Ljava_lang_Integer_ rfl) rfl (by show 2 * 0 + _ ≤ _; exact Nat.le_of_eq rfl) (hb hby at_65) (fun _ _ => ⟨rfl, e830, (by decide : 8 + 1 ≤ _), (by decide : 21 + 1 ≤ _)⟩)
          dsimp only [Pt.U, Pt.locs, Pt.cells, Pt.slots] at X845 l845 y845 z845 st845 hQ845
          subst l845 y845 z845
          obtain ⟨h845, e845⟩ : ∃ h, T845.heap = h := ⟨_, rfl⟩
          rw [e845] at hQ845
          have f847 := (f824.keep Kq830)
          have f848 := (f826.keep Kq830)
          have f849 := ((f820.keep Kq816).keep Kq830)
          have f850 := (f833.keep Kq830)
          have f851 := (E1_816.keep Kq830)
          have f852 := (f827.keep Kq830)
          obtain ⟨ax_845, rfl, Nq845, Kq845, E1_845, F1_845⟩ := hQ845
          have N845 := Fr.app N830 Nq845
          have Z845 : n0 ≤ h845.size := Nat.le_trans Z830 Kq845.1
          refine Go.step st845 ?_
          show Go _ _ _ _ _ _ _ T845 (mkF m 68 #[.val (.int inn), .val (.int k1), .val (.int k2), .val (.int k3), .val (.int iv), .val (.int iw), .val (.int cn), .val (.ref b738), .unset, .unset] [(.ref ax_845), (.ref b738)])
          refine Go.step (fun _ k => XS.iload X845.here hx rfl (hb hby at_68) rfl k) ?_
          have f854 := (f846.keep Kq845 all0)
          obtain ⟨_, _, ⟨T853, L853, k853, n853⟩, -, X853, ⟨Lc853, hQ853, l853, y853, z853⟩, st853⟩ := Jvm.LawKit.callS X845 hx (y := (⟨"java/lang/Integer", "valueOf", "(I)Ljava/lang/Integer;"⟩ : MethodName)) hown (mvT hZ (own_w hw 28 rfl)) (mvT hZ (own_w hw 29 rfl)) (mvT hZ (own_w hw 30 rfl)) (mvT hZ (own_w hw 31 rfl)) (by decide) (backOf (W := 2) (rmVo l Z a0 hw [] iv ac cc h845 n0 Z845 f854 SH SC BX) hZ (own_w hw 31 rfl) (own_w hw 30 rfl) (by decide) (by decide)) (g := (mkF m 70 #[.val (.int inn), .val (.int k1), .val (.int k2), .val (.int k3), .val (.int iv), .val (.int iw), .val (.int cn), .val (.ref b738), .unset, .unset] [(.int iv), (.ref ax_845), (.ref b738)])) rfl (by rw [hml]; rfl) (argsL := [(.int iv)]) (rest := [(.ref ax_845), (.ref b738)]) (lenOf pd__I_Ljava_lang_Integer_ rfl) rfl (by show 2 * 0 + _ ≤ _; exact Nat.le_of_eq rfl) (hb hby at_70) (fun _ _ => ⟨rfl, e845, (by decide : 9 + 1 ≤ _), (by decide : 22 + 1 ≤ _)⟩)
          dsimp only [Pt.U, Pt.locs, Pt.cells, Pt.slots] at X853 l853 y853 z853 st853 hQ853
          subst l853 y853 z853
          obtain ⟨h853, e853⟩ : ∃ h, T853.heap = h := ⟨_, rfl⟩
          rw [e853] at hQ853
          have f855 := (f847.keep Kq845)
          have f856 := (f848.keep Kq845)
          have f857 := (f849.keep Kq845)
          have f858 := (f850.keep Kq845)
          have f859 := (f851.keep Kq845)
          have f860 := (f852.keep Kq845)
          obtain ⟨ax_853, rfl, Nq853, Kq853, E1_853, F1_853⟩ := hQ853
          have N853 := Fr.app N845 Nq853
          have Z853 : n0 ≤ h853.size := Nat.le_trans Z845 Kq853.1
          refine Go.step st853 ?_
          show Go _ _ _ _ _ _ _ T853 (mkF m 73 #[.val (.int inn), .val (.int k1), .val (.int k2), .val (.int k3), .val (.int iv), .val (.int iw), .val (.int cn), .val (.ref b738), .unset, .unset] [(.ref ax_853), (.ref ax_845), (.ref b738)])
          rcases own_tri k3 k1 with q3 | q3 | q3
          · show Go _ _ _ _ _ _ _ T853 (mkF m 73 #[.val (.int inn), .val (.int k1), .val (.int k2), .val (.int k3), .val (.int iv), .val (.int iw), .val (.int cn), .val (.ref b738), .unset, .unset] [(.ref ax_853), (.ref ax_845), (.ref b738)])
            have f861 := ((b_left_830.keep Kq845 nin0).keep Kq853 nin0)
            have f862 := ((b_right_830.keep Kq845 nin0).keep Kq853 nin0)
            have f863 := (f855.keep Kq853)
            have f864 := ((b_key_830.keep Kq845 nin0).keep Kq853 nin0)
            have f865 := (f856.keep Kq853)
            have f866 := (((f829.keep Kq830 (ninS ne_ax_793_an_799 nin0)).keep Kq845 nin0).keep Kq853 nin0)
            have f868 := (f860.keep Kq853)
            have f869 := (((f831.keep Kq830 (ninS ne_b738_an_799 nin0)).keep Kq845 nin0).keep Kq853 nin0)
            have f870 := (((f832.keep Kq830 (ninS ne_b738_an_799 nin0)).keep Kq845 nin0).keep Kq853 nin0)
            have f871 := (E1_845.keep Kq853)
            have f872 := (F1_845.keep Kq853 nin0)
            have f873 := ((b_value_830.keep Kq845 nin0).keep Kq853 nin0)
            have f874 := ((b_parent_830.keep Kq845 nin0).keep Kq853 nin0)
            have f875 := ((b_red_830.keep Kq845 nin0).keep Kq853 nin0)
            obtain ⟨cq867, kq867, q867a, q867b, q867c⟩ := isOf hZ e853 f868
            obtain ⟨_, _, ⟨T867, L867, k867, n867⟩, -, X867, ⟨Lc867, hQ867, l867, y867, z867⟩, st867⟩ := X853.virtualBack hx (y := (⟨"gatherwick/maps/GwTreeMap", "put", "(Ljava/lang/Object;Ljava/lang/Object;)Ljava/lang/Object;"⟩ : MethodName)) (z := (⟨"gatherwick/maps/GwTreeMap", "put", "(Ljava/lang/Object;Ljava/lang/Object;)Ljava/lang/Object;"⟩ : MethodName)) hown (mvT hZ (own_w hw 84 rfl)) (mvT hZ (own_w hw 85 rfl)) (notFace_of_selects (args := #[]) (mvT hZ (own_w hw 87 rfl))) (mvT hZ (own_w hw 87 rfl)) (mvT hZ (own_w hw 86 rfl)) (by decide) (backOf (W := 0) (rmUE l Z a0 hw [] b738 ax_845 ax_853 k3 [(an_799, ax_793, k1)] an_799 ax_793 ax_816 .null .null .null (0 : Int32) h853 n0 Z853 f868 f869 f870 f871 f872 ⟨f863, f864, f865, f866, (fun z => absurd q3 (own_ltne z)), (fun z => absurd q3 (own_gtne z)), trivial⟩ ((own_sn_eq q3)) f863 g_an_799 f864 f873 f861 f862 f874 f875) hZ (own_w hw 88 rfl) (own_w hw 2 rfl) (by decide) (by decide)) q867a q867c (g := (mkF m 73 #[.val (.int inn), .val (.int k1), .val (.int k2), .val (.int k3), .val (.int iv), .val (.int iw), .val (.int cn), .val (.ref b738), .unset, .unset] [(.ref ax_853), (.ref ax_845), (.ref b738)])) rfl (by rw [hml]; rfl) (Steps.refl _) (argsL := [(.ref ax_845), (.ref ax_853)]) (rest := []) (lenOf pd__Ljava_lang_Object_Ljava_lang_Object__Ljava_lang_Object_ rfl) rfl (by show 2 * 0 + _ ≤ _; exact Nat.le_of_eq rfl) (hb hby at_73) (fun _ _ => ⟨rfl, e853, (by decide : 10 + 1 ≤ _), (by decide : 23 + 3 ≤ _)⟩)
            dsimp only [Pt.U, Pt.locs, Pt.cells, Pt.slots] at X867 l867 y867 z867 st867 hQ867
            subst l867 y867 z867
            obtain ⟨h867, e867⟩ : ∃ h, T867.heap = h := ⟨_, rfl⟩
            rw [e867] at hQ867
            obtain ⟨rfl, Nq867, Kq867, b_key_867, b_value_867, b_left_867, b_right_867, b_parent_867, b_red_867⟩ := hQ867
            have N867 := Fr.app N853 Nq867
            have Z867 : n0 ≤ h867.size := Nat.le_trans Z853 Kq867.1
            have b_red_867 : Fld Z h867 an_799 "gatherwick/maps/RedBlackTree$Node" "red" "Z" (.int (0 : Int32)) := b_red_867
            refine Go.trans st867 ?_
            show Go _ _ _ _ _ _ _ T867 (mkF m 76 #[.val (.int inn), .val (.int k1), .val (.int k2), .val (.int k3), .val (.int iv), .val (.int iw), .val (.int cn), .val (.ref b738), .unset, .unset] [(.ref ax_816)])
            refine Go.step (fun _ k => XS.pop X867.here hx rfl (hb hby at_76) rfl rfl k) ?_
            show Go _ _ _ _ _ _ _ T867 (mkF m 77 #[.val (.int inn), .val (.int k1), .val (.int k2), .val (.int k3), .val (.int iv), .val (.int iw), .val (.int cn), .val (.ref b738), .unset, .unset] [])
            have f876 := (f868.keep Kq867)
            have f877 := (f869.keep Kq867 (ninS ne_b738_an_799 nin0))
            have f878 := (f870.keep Kq867 (ninS ne_b738_an_799 nin0))
            have f879 := ((((((q_size_799.keep Kq811 nin0).keep Kq816 nin0).keep Kq830 (ninS ne_b738_an_799 nin0)).keep Kq845 nin0).keep Kq853 nin0).keep Kq867 (ninS ne_b738_an_799 nin0))
            have f880 := ((((((q_modCount_799.keep Kq811 nin0).keep Kq816 nin0).keep Kq830 (ninS ne_b738_an_799 nin0)).keep Kq845 nin0).keep Kq853 nin0).keep Kq867 (ninS ne_b738_an_799 nin0))
            have f881 := ((f854.keep Kq853 all0).keep Kq867 (allS g_an_799 all0))
            exact J T867 h867 _ (.ref an_799) (1 : Int32) (1 : Int32) (X867.more (by decide) (by decide)) e867 N867 Z867 f876 f877 f878 f879 f880 f881 (fun q => absurd (by decide) q)
          · show Go _ _ _ _ _ _ _ T853 (mkF m 73 #[.val (.int inn), .val (.int k1), .val (.int k2), .val (.int k3), .val (.int iv), .val (.int iw), .val (.int cn), .val (.ref b738), .unset, .unset] [(.ref ax_853), (.ref ax_845), (.ref b738)])
            have f882 := ((b_left_830.keep Kq845 nin0).keep Kq853 nin0)
            have f883 := ((b_right_830.keep Kq845 nin0).keep Kq853 nin0)
            have f884 := (f855.keep Kq853)
            have f885 := ((b_key_830.keep Kq845 nin0).keep Kq853 nin0)
            have f886 := (f856.keep Kq853)
            have f887 := (((f829.keep Kq830 (ninS ne_ax_793_an_799 nin0)).keep Kq845 nin0).keep Kq853 nin0)
            have f889 := (f860.keep Kq853)
            have f890 := (((f831.keep Kq830 (ninS ne_b738_an_799 nin0)).keep Kq845 nin0).keep Kq853 nin0)
            have f891 := (((f832.keep Kq830 (ninS ne_b738_an_799 nin0)).keep Kq845 nin0).keep Kq853 nin0)
            have f892 := (((((q_size_799.keep Kq811 nin0).keep Kq816 nin0).keep Kq830 (ninS ne_b738_an_799 nin0)).keep Kq845 nin0).keep Kq853 nin0)
            have f893 := (((((q_modCount_799.keep Kq811 nin0).keep Kq816 nin0).keep Kq830 (ninS ne_b738_an_799 nin0)).keep Kq845 nin0).keep Kq853 nin0)
            have f894 := (E1_845.keep Kq853)
            have f895 := (F1_845.keep Kq853 nin0)
            have f896 := ((b_value_830.keep Kq845 nin0).keep Kq853 nin0)
            have f897 := ((b_parent_830.keep Kq845 nin0).keep Kq853 nin0)
            have f898 := ((b_red_830.keep Kq845 nin0).keep Kq853 nin0)
            obtain ⟨cq888, kq888, q888a, q888b, q888c⟩ := isOf hZ e853 f889
            obtain ⟨_, _, ⟨T888, L888, k888, n888⟩, -, X888, ⟨Lc888, hQ888, l888, y888, z888⟩, st888⟩ := X853.virtualBack hx (y := (⟨"gatherwick/maps/GwTreeMap", "put", "(Ljava/lang/Object;Ljava/lang/Object;)Ljava/lang/Object;"⟩ : MethodName)) (z := (⟨"gatherwick/maps/GwTreeMap", "put", "(Ljava/lang/Object;Ljava/lang/Object;)Ljava/lang/Object;"⟩ : MethodName)) hown (mvT hZ (own_w hw 84 rfl)) (mvT hZ (own_w hw 85 rfl)) (notFace_of_selects (args := #[]) (mvT hZ (own_w hw 87 rfl))) (mvT hZ (own_w hw 87 rfl)) (mvT hZ (own_w hw 86 rfl)) (by decide) (backOf (W := 0) (rmUOl l Z a0 hw [] b738 ax_845 ax_853 k3 (1 : Int32) (1 : Int32) an_799 ax_793 ax_816 .null k1 [] h853 n0 Z853 f889 g_b738 f890 f891 f892 f893 f894 f895 ⟨f884, f885, f886, f887, (fun _ => f882), (fun z => absurd z (own_gtnl q3)), trivial⟩ ((own_sn_lt q3)) ((own_sp_lt q3)) ((own_sl_lt q3)) (by decide) f884 g_an_799 f885 f896 f882 f883 f897 f898) hZ (own_w hw 88 rfl) (own_w hw 2 rfl) (by decide) (by decide)) q888a q888c (g := (mkF m 73 #[.val (.int inn), .val (.int k1), .val (.int k2), .val (.int k3), .val (.int iv), .val (.int iw), .val (.int cn), .val (.ref b738), .unset, .unset] [(.ref ax_853), (.ref ax_845), (.ref b738)])) rfl (by rw [hml]; rfl) (Steps.refl _) (argsL := [(.ref ax_845), (.ref ax_853)]) (rest := []) (lenOf pd__Ljava_lang_Object_Ljava_lang_Object__Ljava_lang_Object_ rfl) rfl (by show 2 * 0 + _ ≤ _; exact Nat.le_of_eq rfl) (hb hby at_73) (fun _ _ => ⟨rfl, e853, (by decide : 10 + 2 ≤ _), (by decide : 23 + 9 ≤ _)⟩)
            dsimp only [Pt.U, Pt.locs, Pt.cells, Pt.slots] at X888 l888 y888 z888 st888 hQ888
            subst l888 y888 z888
            obtain ⟨h888, e888⟩ : ∃ h, T888.heap = h := ⟨_, rfl⟩
            rw [e888] at hQ888
            have f899 := (f857.keep Kq853)
            have f900 := (f858.keep Kq853)
            have f901 := (f859.keep Kq853)
            obtain ⟨an_888, rfl, Nq888, Kq888, szn_888, E_n_888, b_key_888, b_value_888, b_left_888, b_right_888, b_parent_888, b_red_888, d_key_888, d_value_888, d_left_888, d_right_888, d_parent_888, d_red_888, q_comparator_888, q_root_888, q_size_888, q_modCount_888⟩ := hQ888
            have N888 := Fr.app N853 Nq888
            have Z888 : n0 ≤ h888.size := Nat.le_trans Z853 Kq888.1
            have g_an_888 : n0 ≤ an_888 := Nat.le_trans Z853 szn_888
            have ne_an_799_an_888 : an_799 ≠ an_888 := Nat.ne_of_lt (Nat.lt_of_lt_of_le f884.lt szn_888)
            have ne_ax_793_an_888 : ax_793 ≠ an_888 := Nat.ne_of_lt (Nat.lt_of_lt_of_le f886.lt szn_888)
            have ne_ax_796_an_888 : ax_796 ≠ an_888 := Nat.ne_of_lt (Nat.lt_of_lt_of_le f899.lt szn_888)
            have ne_ax_811_an_888 : ax_811 ≠ an_888 := Nat.ne_of_lt (Nat.lt_of_lt_of_le f900.lt szn_888)
            have ne_ax_816_an_888 : ax_816 ≠ an_888 := Nat.ne_of_lt (Nat.lt_of_lt_of_le f901.lt szn_888)
            have ne_ax_845_an_888 : ax_845 ≠ an_888 := Nat.ne_of_lt (Nat.lt_of_lt_of_le f894.lt szn_888)
            have ne_ax_853_an_888 : ax_853 ≠ an_888 := Nat.ne_of_lt (Nat.lt_of_lt_of_le E1_853.lt szn_888)
            have ne_b738_an_888 : b738 ≠ an_888 := Nat.ne_of_lt (Nat.lt_of_lt_of_le f889.lt szn_888)
            have q_size_888 : Fld Z h888 b738 "gatherwick/maps/GwTreeMap" "size" "I" (.int (2 : Int32)) := q_size_888
            have q_modCount_888 : Fld Z h888 b738 "gatherwick/maps/GwTreeMap" "modCount" "I" (.int (2 : Int32)) := q_modCount_888
            refine Go.trans st888 ?_
            show Go _ _ _ _ _ _ _ T888 (mkF m 76 #[.val (.int inn), .val (.int k1), .val (.int k2), .val (.int k3), .val (.int iv), .val (.int iw), .val (.int cn), .val (.ref b738), .unset, .unset] [.null])
            refine Go.step (fun _ k => XS.pop X888.here hx rfl (hb hby at_76) rfl rfl k) ?_
            show Go _ _ _ _ _ _ _ T888 (mkF m 77 #[.val (.int inn), .val (.int k1), .val (.int k2), .val (.int k3), .val (.int iv), .val (.int iw), .val (.int cn), .val (.ref b738), .unset, .unset] [])
            have f902 := (f889.keep Kq888)
            have f903 := ((f854.keep Kq853 all0).keep Kq888 (allS g_b738 (allS g_an_799 all0)))
            exact J T888 h888 _ (.ref an_799) (2 : Int32) (2 : Int32) (X888.more (by decide) (by decide)) e888 N888 Z888 f902 q_comparator_888 q_root_888 q_size_888 q_modCount_888 f903 (fun q => absurd (by decide) q)
          · show Go _ _ _ _ _ _ _ T853 (mkF m 73 #[.val (.int inn), .val (.int k1), .val (.int k2), .val (.int k3), .val (.int iv), .val (.int iw), .val (.int cn), .val (.ref b738), .unset, .unset] [(.ref ax_853), (.ref ax_845), (.ref b738)])
            have f904 := ((b_left_830.keep Kq845 nin0).keep Kq853 nin0)
            have f905 := ((b_right_830.keep Kq845 nin0).keep Kq853 nin0)
            have f906 := (f855.keep Kq853)
            have f907 := ((b_key_830.keep Kq845 nin0).keep Kq853 nin0)
            have f908 := (f856.keep Kq853)
            have f909 := (((f829.keep Kq830 (ninS ne_ax_793_an_799 nin0)).keep Kq845 nin0).keep Kq853 nin0)
            have f911 := (f860.keep Kq853)
            have f912 := (((f831.keep Kq830 (ninS ne_b738_an_799 nin0)).keep Kq845 nin0).keep Kq853 nin0)
            have f913 := (((f832.keep Kq830 (ninS ne_b738_an_799 nin0)).keep Kq845 nin0).keep Kq853 nin0)
            have f914 := (((((q_size_799.keep Kq811 nin0).keep Kq816 nin0).keep Kq830 (ninS ne_b738_an_799 nin0)).keep Kq845 nin0).keep Kq853 nin0)
            have f915 := (((((q_modCount_799.keep Kq811 nin0).keep Kq816 nin0).keep Kq830 (ninS ne_b738_an_799 nin0)).keep Kq845 nin0).keep Kq853 nin0)
            have f916 := (E1_845.keep Kq853)
            have f917 := (F1_845.keep Kq853 nin0)
            have f918 := ((b_value_830.keep Kq845 nin0).keep Kq853 nin0)
            have f919 := ((b_parent_830.keep Kq845 nin0).keep Kq853 nin0)
            have f920 := ((b_red_830.keep Kq845 nin0).keep Kq853 nin0)
            obtain ⟨cq910, kq910, q910a, q910b, q910c⟩ := isOf hZ e853 f911
            obtain ⟨_, _, ⟨T910, L910, k910, n910⟩, -, X910, ⟨Lc910, hQ910, l910, y910, z910⟩, st910⟩ := X853.virtualBack hx (y := (⟨"gatherwick/maps/GwTreeMap", "put", "(Ljava/lang/Object;Ljava/lang/Object;)Ljava/lang/Object;"⟩ : MethodName)) (z := (⟨"gatherwick/maps/GwTreeMap", "put", "(Ljava/lang/Object;Ljava/lang/Object;)Ljava/lang/Object;"⟩ : MethodName)) hown (mvT hZ (own_w hw 84 rfl)) (mvT hZ (own_w hw 85 rfl)) (notFace_of_selects (args := #[]) (mvT hZ (own_w hw 87 rfl))) (mvT hZ (own_w hw 87 rfl)) (mvT hZ (own_w hw 86 rfl)) (by decide) (backOf (W := 0) (rmUOr l Z a0 hw [] b738 ax_845 ax_853 k3 (1 : Int32) (1 : Int32) an_799 ax_793 ax_816 .null k1 [] h853 n0 Z853 f911 g_b738 f912 f913 f914 f915 f916 f917 ⟨f906, f907, f908, f909, (fun z => absurd z (own_gtnl q3)), (fun _ => f905), trivial⟩ ((own_sn_gt q3)) ((own_sp_gt q3)) ((own_sl_gt q3)) (by decide) f906 g_an_799 f907 f918 f905 f904 f919 f920) hZ (own_w hw 88 rfl) (own_w hw 2 rfl) (by decide) (by decide)) q910a q910c (g := (mkF m 73 #[.val (.int inn), .val (.int k1), .val (.int k2), .val (.int k3), .val (.int iv), .val (.int iw), .val (.int cn), .val (.ref b738), .unset, .unset] [(.ref ax_853), (.ref ax_845), (.ref b738)])) rfl (by rw [hml]; rfl) (Steps.refl _) (argsL := [(.ref ax_845), (.ref ax_853)]) (rest := []) (lenOf pd__Ljava_lang_Object_Ljava_lang_Object__Ljava_lang_Object_ rfl) rfl (by show 2 * 0 + _ ≤ _; exact Nat.le_of_eq rfl) (hb hby at_73) (fun _ _ => ⟨rfl, e853, (by decide : 10 + 2 ≤ _), (by decide : 23 + 9 ≤ _)⟩)
            dsimp only [Pt.U, Pt.locs, Pt.cells, Pt.slots] at X910 l910 y910 z910 st910 hQ910
            subst l910 y910 z910
            obtain ⟨h910, e910⟩ : ∃ h, T910.heap = h := ⟨_, rfl⟩
            rw [e910] at hQ910
            have f921 := (f857.keep Kq853)
            have f922 := (f858.keep Kq853)
            have f923 := (f859.keep Kq853)
            obtain ⟨an_910, rfl, Nq910, Kq910, szn_910, E_n_910, b_key_910, b_value_910, b_left_910, b_right_910, b_parent_910, b_red_910, d_key_910, d_value_910, d_right_910, d_left_910, d_parent_910, d_red_910, q_comparator_910, q_root_910, q_size_910, q_modCount_910⟩ := hQ910
            have N910 := Fr.app N853 Nq910
            have Z910 : n0 ≤ h910.size := Nat.le_trans Z853 Kq910.1
            have g_an_910 : n0 ≤ an_910 := Nat.le_trans Z853 szn_910
            have ne_an_799_an_910 : an_799 ≠ an_910 := Nat.ne_of_lt (Nat.lt_of_lt_of_le f906.lt szn_910)
            have ne_ax_793_an_910 : ax_793 ≠ an_910 := Nat.ne_of_lt (Nat.lt_of_lt_of_le f908.lt szn_910)
            have ne_ax_796_an_910 : ax_796 ≠ an_910 := Nat.ne_of_lt (Nat.lt_of_lt_of_le f921.lt szn_910)
            have ne_ax_811_an_910 : ax_811 ≠ an_910 := Nat.ne_of_lt (Nat.lt_of_lt_of_le f922.lt szn_910)
            have ne_ax_816_an_910 : ax_816 ≠ an_910 := Nat.ne_of_lt (Nat.lt_of_lt_of_le f923.lt szn_910)
            have ne_ax_845_an_910 : ax_845 ≠ an_910 := Nat.ne_of_lt (Nat.lt_of_lt_of_le f916.lt szn_910)
            have ne_ax_853_an_910 : ax_853 ≠ an_910 := Nat.ne_of_lt (Nat.lt_of_lt_of_le E1_853.lt szn_910)
            have ne_b738_an_910 : b738 ≠ an_910 := Nat.ne_of_lt (Nat.lt_of_lt_of_le f911.lt szn_910)
            have q_size_910 : Fld Z h910 b738 "gatherwick/maps/GwTreeMap" "size" "I" (.int (2 : Int32)) := q_size_910
            have q_modCount_910 : Fld Z h910 b738 "gatherwick/maps/GwTreeMap" "modCount" "I" (.int (2 : Int32)) := q_modCount_910
            refine Go.trans st910 ?_
            show Go _ _ _ _ _ _ _ T910 (mkF m 76 #[.val (.int inn), .val (.int k1), .val (.int k2), .val (.int k3), .val (.int iv), .val (.int iw), .val (.int cn), .val (.ref b738), .unset, .unset] [.null])
            refine Go.step (fun _ k => XS.pop X910.here hx rfl (hb hby at_76) rfl rfl k) ?_
            show Go _ _ _ _ _ _ _ T910 (mkF m 77 #[.val (.int inn), .val (.int k1), .val (.int k2), .val (.int k3), .val (.int iv), .val (.int iw), .val (.int cn), .val (.ref b738), .unset, .unset] [])
            have f924 := (f911.keep Kq910)
            have f925 := ((f854.keep Kq853 all0).keep Kq910 (allS g_b738 (allS g_an_799 all0)))
            exact J T910 h910 _ (.ref an_799) (2 : Int32) (2 : Int32) (X910.more (by decide) (by decide)) e910 N910 Z910 f924 q_comparator_910 q_root_910 q_size_910 q_modCount_910 f925 (fun q => absurd (by decide) q)
      · show Go _ _ _ _ _ _ _ T816 (mkF m 52 #[.val (.int inn), .val (.int k1), .val (.int k2), .val (.int k3), .val (.int iv), .val (.int iw), .val (.int cn), .val (.ref b738), .unset, .unset] [(.ref ax_816), (.ref ax_811), (.ref b738)])
        have f926 := ((b_left_799.keep Kq811 nin0).keep Kq816 nin0)
        have f927 := ((b_right_799.keep Kq811 nin0).keep Kq816 nin0)
        have f928 := (f818.keep Kq816)
        have f929 := ((b_key_799.keep Kq811 nin0).keep Kq816 nin0)
        have f930 := (f819.keep Kq816)
        have f931 := (f821.keep Kq816)
        have nx932 : ax_793 ≠ b738 := Exa.ne f930 f931 (by decide)
        have f933 := (((f806.keep Kq799 (ninS nx932 nin0)).keep Kq811 nin0).keep Kq816 nin0)
        have f935 := ((q_comparator_799.keep Kq811 nin0).keep Kq816 nin0)
        have f936 := ((q_root_799.keep Kq811 nin0).keep Kq816 nin0)
        have f937 := ((q_size_799.keep Kq811 nin0).keep Kq816 nin0)
        have f938 := ((q_modCount_799.keep Kq811 nin0).keep Kq816 nin0)
        have f939 := (E1_811.keep Kq816)
        have f940 := (F1_811.keep Kq816 nin0)
        have f941 := ((b_value_799.keep Kq811 nin0).keep Kq816 nin0)
        have f942 := ((b_parent_799.keep Kq811 nin0).keep Kq816 nin0)
        have f943 := ((b_red_799.keep Kq811 nin0).keep Kq816 nin0)
        obtain ⟨cq934, kq934, q934a, q934b, q934c⟩ := isOf hZ e816 f931
        obtain ⟨_, _, ⟨T934, L934, k934, n934⟩, -, X934, ⟨Lc934, hQ934, l934, y934, z934⟩, st934⟩ := X816.virtualBack hx (y := (⟨"gatherwick/maps/GwTreeMap", "put", "(Ljava/lang/Object;Ljava/lang/Object;)Ljava/lang/Object;"⟩ : MethodName)) (z := (⟨"gatherwick/maps/GwTreeMap", "put", "(Ljava/lang/Object;Ljava/lang/Object;)Ljava/lang/Object;"⟩ : MethodName)) hown (mvT hZ (own_w hw 84 rfl)) (mvT hZ (own_w hw 85 rfl)) (notFace_of_selects (args := #[]) (mvT hZ (own_w hw 87 rfl))) (mvT hZ (own_w hw 87 rfl)) (mvT hZ (own_w hw 86 rfl)) (by decide) (backOf (W := 0) (rmUOl l Z a0 hw [] b738 ax_811 ax_816 k2 (1 : Int32) (1 : Int32) an_799 ax_793 ax_796 .null k1 [] h816 n0 Z816 f931 g_b738 f935 f936 f937 f938 f939 f940 ⟨f928, f929, f930, f933, (fun _ => f926), (fun z => absurd z (own_gtnl q2)), trivial⟩ ((own_sn_lt q2)) ((own_sp_lt q2)) ((own_sl_lt q2)) (by decide) f928 g_an_799 f929 f941 f926 f927 f942 f943) hZ (own_w hw 88 rfl) (own_w hw 2 rfl) (by decide) (by decide)) q934a q934c (g := (mkF m 52 #[.val (.int inn), .val (.int k1), .val (.int k2), .val (.int k3), .val (.int iv), .val (.int iw), .val (.int cn), .val (.ref b738), .unset, .unset] [(.ref ax_816), (.ref ax_811), (.ref b738)])) rfl (by rw [hml]; rfl) (Steps.refl _) (argsL := [(.ref ax_811), (.ref ax_816)]) (rest := []) (lenOf pd__Ljava_lang_Object_Ljava_lang_Object__Ljava_lang_Object_ rfl) rfl (by show 2 * 0 + _ ≤ _; exact Nat.le_of_eq rfl) (hb hby at_52) (fun _ _ => ⟨rfl, e816, (by decide : 7 + 2 ≤ _), (by decide : 18 + 9 ≤ _)⟩)
        dsimp only [Pt.U, Pt.locs, Pt.cells, Pt.slots] at X934 l934 y934 z934 st934 hQ934
        subst l934 y934 z934
        obtain ⟨h934, e934⟩ : ∃ h, T934.heap = h := ⟨_, rfl⟩
        rw [e934] at hQ934
        have f944 := (f820.keep Kq816)
        obtain ⟨an_934, rfl, Nq934, Kq934, szn_934, E_n_934, b_key_934, b_value_934, b_left_934, b_right_934, b_parent_934, b_red_934, d_key_934, d_value_934, d_left_934, d_right_934, d_parent_934, d_red_934, q_comparator_934, q_root_934, q_size_934, q_modCount_934⟩ := hQ934
        have N934 := Fr.app N816 Nq934
        have Z934 : n0 ≤ h934.size := Nat.le_trans Z816 Kq934.1
        have g_an_934 : n0 ≤ an_934 := Nat.le_trans Z816 szn_934
        have ne_an_799_an_934 : an_799 ≠ an_934 := Nat.ne_of_lt (Nat.lt_of_lt_of_le f928.lt szn_934)
        have ne_ax_793_an_934 : ax_793 ≠ an_934 := Nat.ne_of_lt (Nat.lt_of_lt_of_le f930.lt szn_934)
        have ne_ax_796_an_934 : ax_796 ≠ an_934 := Nat.ne_of_lt (Nat.lt_of_lt_of_le f944.lt szn_934)
        have ne_ax_811_an_934 : ax_811 ≠ an_934 := Nat.ne_of_lt (Nat.lt_of_lt_of_le f939.lt szn_934)
        have ne_ax_816_an_934 : ax_816 ≠ an_934 := Nat.ne_of_lt (Nat.lt_of_lt_of_le E1_816.lt szn_934)
        have ne_b738_an_934 : b738 ≠ an_934 := Nat.ne_of_lt (Nat.lt_of_lt_of_le f931.lt szn_934)
        have q_size_934 : Fld Z h934 b738 "gatherwick/maps/GwTreeMap" "size" "I" (.int (2 : Int32)) := q_size_934
        have q_modCount_934 : Fld Z h934 b738 "gatherwick/maps/GwTreeMap" "modCount" "I" (.int (2 : Int32)) := q_modCount_934
        refine Go.trans st934 ?_
        show Go _ _ _ _ _ _ _ T934 (mkF m 55 #[.val (.int inn), .val (.int k1), .val (.int k2), .val (.int k3), .val (.int iv), .val (.int iw), .val (.int cn), .val (.ref b738), .unset, .unset] [.null])
        refine Go.step (fun _ k => XS.pop X934.here hx rfl (hb hby at_55) rfl rfl k) ?_
        show Go _ _ _ _ _ _ _ T934 (mkF m 56 #[.val (.int inn), .val (.int k1), .val (.int k2), .val (.int k3), .val (.int iv), .val (.int iw), .val (.int cn), .val (.ref b738), .unset, .unset] [])
        refine Go.step (fun _ k => XS.iload X934.here hx rfl (hb hby at_56) rfl k) ?_
        refine Go.step (fun _ k => XS.iconst X934.here hx rfl (hb hby at_58) k) ?_
        by_cases hc59_945 : cn < (3 : Int32)
        · refine Go.step (fun _ k => XS.icmpYes X934.here hx rfl (pc0 := 59) (pc' := 77) rfl (hb hby at_59) rfl (tlt hc59_945).1 (by decide) (by decide) k) ?_
          show Go _ _ _ _ _ _ _ T934 (mkF m 77 #[.val (.int inn), .val (.int k1), .val (.int k2), .val (.int k3), .val (.int iv), .val (.int iw), .val (.int cn), .val (.ref b738), .unset, .unset] [])
          have f946 := (f931.keep Kq934)
          have f947 := ((f817.keep Kq816 all0).keep Kq934 (allS g_b738 (allS g_an_799 all0)))
          exact J T934 h934 _ (.ref an_799) (2 : Int32) (2 : Int32) (X934.more (by decide) (by decide)) e934 N934 Z934 f946 q_comparator_934 q_root_934 q_size_934 q_modCount_934 f947 (fun q => absurd (by decide) q)
        · refine Go.step (fun _ k => XS.icmpNo X934.here hx rfl (hb hby at_59) rfl (flt hc59_945).1 k) ?_
          show Go _ _ _ _ _ _ _ T934 (mkF m 62 #[.val (.int inn), .val (.int k1), .val (.int k2), .val (.int k3), .val (.int iv), .val (.int iw), .val (.int cn), .val (.ref b738), .unset, .unset] [])
          refine Go.step (fun _ k => XS.aload X934.here hx rfl (hb hby at_62) rfl rfl k) ?_
          refine Go.step (fun _ k => XS.iloadN X934.here hx rfl (hb hby at_64) rfl k) ?_
          have f949 := ((f817.keep Kq816 all0).keep Kq934 (allS g_b738 (allS g_an_799 all0)))
          obtain ⟨_, _, ⟨T948, L948, k948, n948⟩, -, X948, ⟨Lc948, hQ948, l948, y948, z948⟩, st948⟩ := Jvm.LawKit.callS X934 hx (y := (⟨"java/lang/Integer", "valueOf", "(I)Ljava/lang/Integer;"⟩ : MethodName)) hown (mvT hZ (own_w hw 28 rfl)) (mvT hZ (own_w hw 29 rfl)) (mvT hZ (own_w hw 30 rfl)) (mvT hZ (own_w hw 31 rfl)) (by decide) (backOf (W := 1) (rmVo l Z a0 hw [] k3 ac cc h934 n0 Z934 f949 SH SC BX) hZ (own_w hw 31 rfl) (own_w hw 30 rfl) (by decide) (by decide)) (g := (mkF m 65 #[.val (.int inn), .val (.int k1), .val (.int k2), .val (.int k3), .val (.int iv), .val (.int iw), .val (.int cn), .val (.ref b738), .unset, .unset] [(.int k3), (.ref b738)])) rfl (by rw [hml]; rfl) (argsL := [(.int k3)]) (rest := [(.ref b738)]) (lenOf pd__I_Ljava_lang_Integer_ rfl) rfl (by show 2 * 0 + _ ≤ _; exact Nat.le_of_eq rfl) (hb hby at_65) (fun _ _ => ⟨rfl, e934, (by decide : 9 + 1 ≤ _), (by decide : 27 + 1 ≤ _)⟩)
          dsimp only [Pt.U, Pt.locs, Pt.cells, Pt.slots] at X948 l948 y948 z948 st948 hQ948
          subst l948 y948 z948
          obtain ⟨h948, e948⟩ : ∃ h, T948.heap = h := ⟨_, rfl⟩
          rw [e948] at hQ948
          have f950 := (f928.keep Kq934)
          have f951 := (f930.keep Kq934)
          have f952 := (f944.keep Kq934)
          have f953 := (f939.keep Kq934)
          have f954 := (E1_816.keep Kq934)
          have f955 := (f931.keep Kq934)
          obtain ⟨ax_948, rfl, Nq948, Kq948, E1_948, F1_948⟩ := hQ948
          have N948 := Fr.app N934 Nq948
          have Z948 : n0 ≤ h948.size := Nat.le_trans Z934 Kq948.1
          refine Go.step st948 ?_
          show Go _ _ _ _ _ _ _ T948 (mkF m 68 #[.val (.int inn), .val (.int k1), .val (.int k2), .val (.int k3), .val (.int iv), .val (.int iw), .val (.int cn), .val (.ref b738), .unset, .unset] [(.ref ax_948), (.ref b738)])
          refine Go.step (fun _ k => XS.iload X948.here hx rfl (hb hby at_68) rfl k) ?_
          have f957 := (f949.keep Kq948 all0)
          obtain ⟨_, _, ⟨T956, L956, k956, n956⟩, -, X956, ⟨Lc956, hQ956, l956, y956, z956⟩, st956⟩ := Jvm.LawKit.callS X948 hx (y := (⟨"java/lang/Integer", "valueOf", "(I)Ljava/lang/Integer;"⟩ : MethodName)) hown (mvT hZ (own_w hw 28 rfl)) (mvT hZ (own_w hw 29 rfl)) (mvT hZ (own_w hw 30 rfl)) (mvT hZ (own_w hw 31 rfl)) (by decide) (backOf (W := 2) (rmVo l Z a0 hw [] iv ac cc h948 n0 Z948 f957 SH SC BX) hZ (own_w hw 31 rfl) (own_w hw 30 rfl) (by decide) (by decide)) (g := (mkF m 70 #[.val (.int inn), .val (.int k1), .val (.int k2), .val (.int k3), .val (.int iv), .val (.int iw), .val (.int cn), .val (.ref b738), .unset, .unset] [(.int iv), (.ref ax_948), (.ref b738)])) rfl (by rw [hml]; rfl) (argsL := [(.int iv)]) (rest := [(.ref ax_948), (.ref b738)]) (lenOf pd__I_Ljava_lang_Integer_ rfl) rfl (by show 2 * 0 + _ ≤ _; exact Nat.le_of_eq rfl) (hb hby at_70) (fun _ _ => ⟨rfl, e948, (by decide : 10 + 1 ≤ _), (by decide : 28 + 1 ≤ _)⟩)
          dsimp only [Pt.U, Pt.locs, Pt.cells, Pt.slots] at X956 l956 y956 z956 st956 hQ956
          subst l956 y956 z956
          obtain ⟨h956, e956⟩ : ∃ h, T956.heap = h := ⟨_, rfl⟩
          rw [e956] at hQ956
          have f958 := (f950.keep Kq948)
          have f959 := (E_n_934.keep Kq948)
          have f960 := (f951.keep Kq948)
          have f961 := (f952.keep Kq948)
          have f962 := (f953.keep Kq948)
          have f963 := (f954.keep Kq948)
          have f964 := (f955.keep Kq948)
          obtain ⟨ax_956, rfl, Nq956, Kq956, E1_956, F1_956⟩ := hQ956
          have N956 := Fr.app N948 Nq956
          have Z956 : n0 ≤ h956.size := Nat.le_trans Z948 Kq956.1
          refine Go.step st956 ?_
          show Go _ _ _ _ _ _ _ T956 (mkF m 73 #[.val (.int inn), .val (.int k1), .val (.int k2), .val (.int k3), .val (.int iv), .val (.int iw), .val (.int cn), .val (.ref b738), .unset, .unset] [(.ref ax_956), (.ref ax_948), (.ref b738)])
          rcases own_tri k3 k1 with q3 | q3 | q3
          · show Go _ _ _ _ _ _ _ T956 (mkF m 73 #[.val (.int inn), .val (.int k1), .val (.int k2), .val (.int k3), .val (.int iv), .val (.int iw), .val (.int cn), .val (.ref b738), .unset, .unset] [(.ref ax_956), (.ref ax_948), (.ref b738)])
            have f965 := ((d_left_934.keep Kq948 nin0).keep Kq956 nin0)
            have f966 := ((d_right_934.keep Kq948 nin0).keep Kq956 nin0)
            have f967 := (f958.keep Kq956)
            have f968 := ((d_key_934.keep Kq948 nin0).keep Kq956 nin0)
            have f969 := (f960.keep Kq956)
            have f970 := (((f933.keep Kq934 (ninS nx932 (ninS ne_ax_793_an_799 nin0))).keep Kq948 nin0).keep Kq956 nin0)
            have f972 := (f964.keep Kq956)
            have f973 := ((q_comparator_934.keep Kq948 nin0).keep Kq956 nin0)
            have f974 := ((q_root_934.keep Kq948 nin0).keep Kq956 nin0)
            have f975 := (E1_948.keep Kq956)
            have f976 := (F1_948.keep Kq956 nin0)
            have f977 := ((d_value_934.keep Kq948 nin0).keep Kq956 nin0)
            have f978 := ((d_parent_934.keep Kq948 nin0).keep Kq956 nin0)
            have f979 := ((d_red_934.keep Kq948 nin0).keep Kq956 nin0)
            obtain ⟨cq971, kq971, q971a, q971b, q971c⟩ := isOf hZ e956 f972
            obtain ⟨_, _, ⟨T971, L971, k971, n971⟩, -, X971, ⟨Lc971, hQ971, l971, y971, z971⟩, st971⟩ := X956.virtualBack hx (y := (⟨"gatherwick/maps/GwTreeMap", "put", "(Ljava/lang/Object;Ljava/lang/Object;)Ljava/lang/Object;"⟩ : MethodName)) (z := (⟨"gatherwick/maps/GwTreeMap", "put", "(Ljava/lang/Object;Ljava/lang/Object;)Ljava/lang/Object;"⟩ : MethodName)) hown (mvT hZ (own_w hw 84 rfl)) (mvT hZ (own_w hw 85 rfl)) (notFace_of_selects (args := #[]) (mvT hZ (own_w hw 87 rfl))) (mvT hZ (own_w hw 87 rfl)) (mvT hZ (own_w hw 86 rfl)) (by decide) (backOf (W := 0) (rmUE l Z a0 hw [] b738 ax_948 ax_956 k3 [(an_799, ax_793, k1)] an_799 ax_793 ax_796 (.ref an_934) .null .null (0 : Int32) h956 n0 Z956 f972 f973 f974 f975 f976 ⟨f967, f968, f969, f970, (fun z => absurd q3 (own_ltne z)), (fun z => absurd q3 (own_gtne z)), trivial⟩ ((own_sn_eq q3)) f967 g_an_799 f968 f977 f965 f966 f978 f979) hZ (own_w hw 88 rfl) (own_w hw 2 rfl) (by decide) (by decide)) q971a q971c (g := (mkF m 73 #[.val (.int inn), .val (.int k1), .val (.int k2), .val (.int k3), .val (.int iv), .val (.int iw), .val (.int cn), .val (.ref b738), .unset, .unset] [(.ref ax_956), (.ref ax_948), (.ref b738)])) rfl (by rw [hml]; rfl) (Steps.refl _) (argsL := [(.ref ax_948), (.ref ax_956)]) (rest := []) (lenOf pd__Ljava_lang_Object_Ljava_lang_Object__Ljava_lang_Object_ rfl) rfl (by show 2 * 0 + _ ≤ _; exact Nat.le_of_eq rfl) (hb hby at_73) (fun _ _ => ⟨rfl, e956, (by decide : 11 + 1 ≤ _), (by decide : 29 + 3 ≤ _)⟩)
            dsimp only [Pt.U, Pt.locs, Pt.cells, Pt.slots] at X971 l971 y971 z971 st971 hQ971
            subst l971 y971 z971
            obtain ⟨h971, e971⟩ : ∃ h, T971.heap = h := ⟨_, rfl⟩
            rw [e971] at hQ971
            obtain ⟨rfl, Nq971, Kq971, b_key_971, b_value_971, b_left_971, b_right_971, b_parent_971, b_red_971⟩ := hQ971
            have N971 := Fr.app N956 Nq971
            have Z971 : n0 ≤ h971.size := Nat.le_trans Z956 Kq971.1
            have b_red_971 : Fld Z h971 an_799 "gatherwick/maps/RedBlackTree$Node" "red" "Z" (.int (0 : Int32)) := b_red_971
            refine Go.trans st971 ?_
            show Go _ _ _ _ _ _ _ T971 (mkF m 76 #[.val (.int inn), .val (.int k1), .val (.int k2), .val (.int k3), .val (.int iv), .val (.int iw), .val (.int cn), .val (.ref b738), .unset, .unset] [(.ref ax_796)])
            refine Go.step (fun _ k => XS.pop X971.here hx rfl (hb hby at_76) rfl rfl k) ?_
            show Go _ _ _ _ _ _ _ T971 (mkF m 77 #[.val (.int inn), .val (.int k1), .val (.int k2), .val (.int k3), .val (.int iv), .val (.int iw), .val (.int cn), .val (.ref b738), .unset, .unset] [])
            have f980 := (f972.keep Kq971)
            have f981 := (f973.keep Kq971 (ninS ne_b738_an_799 nin0))
            have f982 := (f974.keep Kq971 (ninS ne_b738_an_799 nin0))
            have f983 := (((q_size_934.keep Kq948 nin0).keep Kq956 nin0).keep Kq971 (ninS ne_b738_an_799 nin0))
            have f984 := (((q_modCount_934.keep Kq948 nin0).keep Kq956 nin0).keep Kq971 (ninS ne_b738_an_799 nin0))
            have f985 := ((f957.keep Kq956 all0).keep Kq971 (allS g_an_799 all0))
            exact J T971 h971 _ (.ref an_799) (2 : Int32) (2 : Int32) (X971.more (by decide) (by decide)) e971 N971 Z971 f980 f981 f982 f983 f984 f985 (fun q => absurd (by decide) q)
          · show Go _ _ _ _ _ _ _ T956 (mkF m 73 #[.val (.int inn), .val (.int k1), .val (.int k2), .val (.int k3), .val (.int iv), .val (.int iw), .val (.int cn), .val (.ref b738), .unset, .unset] [(.ref ax_956), (.ref ax_948), (.ref b738)])
            rcases own_tri k3 k2 with q4 | q4 | q4
            · show Go _ _ _ _ _ _ _ T956 (mkF m 73 #[.val (.int inn), .val (.int k1), .val (.int k2), .val (.int k3), .val (.int iv), .val (.int iw), .val (.int cn), .val (.ref b738), .unset, .unset] [(.ref ax_956), (.ref ax_948), (.ref b738)])
              have f986 := ((d_left_934.keep Kq948 nin0).keep Kq956 nin0)
              have f987 := ((d_right_934.keep Kq948 nin0).keep Kq956 nin0)
              have f988 := (f958.keep Kq956)
              have f989 := ((d_key_934.keep Kq948 nin0).keep Kq956 nin0)
              have f990 := (f960.keep Kq956)
              have f991 := (((f933.keep Kq934 (ninS nx932 (ninS ne_ax_793_an_799 nin0))).keep Kq948 nin0).keep Kq956 nin0)
              have f992 := ((b_left_934.keep Kq948 nin0).keep Kq956 nin0)
              have f993 := ((b_right_934.keep Kq948 nin0).keep Kq956 nin0)
              have f994 := (f959.keep Kq956)
              have f995 := ((b_key_934.keep Kq948 nin0).keep Kq956 nin0)
              have f996 := (f962.keep Kq956)
              have f997 := (f964.keep Kq956)
              have nx998 : ax_811 ≠ b738 := Exa.ne f996 f997 (by decide)
              have nx999 : ax_811 ≠ an_799 := Exa.ne f996 f988 (by decide)
              have f1000 := (((f940.keep Kq934 (ninS nx998 (ninS nx999 nin0))).keep Kq948 nin0).keep Kq956 nin0)
              have f1002 := ((q_comparator_934.keep Kq948 nin0).keep Kq956 nin0)
              have f1003 := ((q_root_934.keep Kq948 nin0).keep Kq956 nin0)
              have f1004 := (E1_948.keep Kq956)
              have f1005 := (F1_948.keep Kq956 nin0)
              have f1006 := ((b_value_934.keep Kq948 nin0).keep Kq956 nin0)
              have f1007 := ((b_parent_934.keep Kq948 nin0).keep Kq956 nin0)
              have f1008 := ((b_red_934.keep Kq948 nin0).keep Kq956 nin0)
              obtain ⟨cq1001, kq1001, q1001a, q1001b, q1001c⟩ := isOf hZ e956 f997
              obtain ⟨_, _, ⟨T1001, L1001, k1001, n1001⟩, -, X1001, ⟨Lc1001, hQ1001, l1001, y1001, z1001⟩, st1001⟩ := X956.virtualBack hx (y := (⟨"gatherwick/maps/GwTreeMap", "put", "(Ljava/lang/Object;Ljava/lang/Object;)Ljava/lang/Object;"⟩ : MethodName)) (z := (⟨"gatherwick/maps/GwTreeMap", "put", "(Ljava/lang/Object;Ljava/lang/Object;)Ljava/lang/Object;"⟩ : MethodName)) hown (mvT hZ (own_w hw 84 rfl)) (mvT hZ (own_w hw 85 rfl)) (notFace_of_selects (args := #[]) (mvT hZ (own_w hw 87 rfl))) (mvT hZ (own_w hw 87 rfl)) (mvT hZ (own_w hw 86 rfl)) (by decide) (backOf (W := 0) (rmUE l Z a0 hw [] b738 ax_948 ax_956 k3 [(an_799, ax_793, k1), (an_934, ax_811, k2)] an_934 ax_811 ax_816 .null .null (.ref an_799) (1 : Int32) h956 n0 Z956 f997 f1002 f1003 f1004 f1005 ⟨f988, f989, f990, f991, (fun _ => f986), (fun z => absurd z (own_gtnl q3)), ⟨f994, f995, f996, f1000, (fun z => absurd q4 (own_ltne z)), (fun z => absurd q4 (own_gtne z)), trivial⟩⟩ ((own_sn_lt q3).trans (own_sn_eq q4)) f994 g_an_934 f995 f1006 f992 f993 f1007 f1008) hZ (own_w hw 88 rfl) (own_w hw 2 rfl) (by decide) (by decide)) q1001a q1001c (g := (mkF m 73 #[.val (.int inn), .val (.int k1), .val (.int k2), .val (.int k3), .val (.int iv), .val (.int iw), .val (.int cn), .val (.ref b738), .unset, .unset] [(.ref ax_956), (.ref ax_948), (.ref b738)])) rfl (by rw [hml]; rfl) (Steps.refl _) (argsL := [(.ref ax_948), (.ref ax_956)]) (rest := []) (lenOf pd__Ljava_lang_Object_Ljava_lang_Object__Ljava_lang_Object_ rfl) rfl (by show 2 * 0 + _ ≤ _; exact Nat.le_of_eq rfl) (hb hby at_73) (fun _ _ => ⟨rfl, e956, (by decide : 11 + 1 ≤ _), (by decide : 29 + 3 ≤ _)⟩)
              dsimp only [Pt.U, Pt.locs, Pt.cells, Pt.slots] at X1001 l1001 y1001 z1001 st1001 hQ1001
              subst l1001 y1001 z1001
              obtain ⟨h1001, e1001⟩ : ∃ h, T1001.heap = h := ⟨_, rfl⟩
              rw [e1001] at hQ1001
              obtain ⟨rfl, Nq1001, Kq1001, b_key_1001, b_value_1001, b_left_1001, b_right_1001, b_parent_1001, b_red_1001⟩ := hQ1001
              have N1001 := Fr.app N956 Nq1001
              have Z1001 : n0 ≤ h1001.size := Nat.le_trans Z956 Kq1001.1
              have b_red_1001 : Fld Z h1001 an_934 "gatherwick/maps/RedBlackTree$Node" "red" "Z" (.int (1 : Int32)) := b_red_1001
              refine Go.trans st1001 ?_
              show Go _ _ _ _ _ _ _ T1001 (mkF m 76 #[.val (.int inn), .val (.int k1), .val (.int k2), .val (.int k3), .val (.int iv), .val (.int iw), .val (.int cn), .val (.ref b738), .unset, .unset] [(.ref ax_816)])
              refine Go.step (fun _ k => XS.pop X1001.here hx rfl (hb hby at_76) rfl rfl k) ?_
              show Go _ _ _ _ _ _ _ T1001 (mkF m 77 #[.val (.int inn), .val (.int k1), .val (.int k2), .val (.int k3), .val (.int iv), .val (.int iw), .val (.int cn), .val (.ref b738), .unset, .unset] [])
              have f1009 := (f997.keep Kq1001)
              have f1010 := (f1002.keep Kq1001 (ninS ne_b738_an_934 nin0))
              have f1011 := (f1003.keep Kq1001 (ninS ne_b738_an_934 nin0))
              have f1012 := (((q_size_934.keep Kq948 nin0).keep Kq956 nin0).keep Kq1001 (ninS ne_b738_an_934 nin0))
              have f1013 := (((q_modCount_934.keep Kq948 nin0).keep Kq956 nin0).keep Kq1001 (ninS ne_b738_an_934 nin0))
              have f1014 := ((f957.keep Kq956 all0).keep Kq1001 (allS g_an_934 all0))
              exact J T1001 h1001 _ (.ref an_799) (2 : Int32) (2 : Int32) (X1001.more (by decide) (by decide)) e1001 N1001 Z1001 f1009 f1010 f1011 f1012 f1013 f1014 (fun q => absurd (by decide) q)
            · show Go _ _ _ _ _ _ _ T956 (mkF m 73 #[.val (.int inn), .val (.int k1), .val (.int k2), .val (.int k3), .val (.int iv), .val (.int iw), .val (.int cn), .val (.ref b738), .unset, .unset] [(.ref ax_956), (.ref ax_948), (.ref b738)])
              have f1015 := ((d_left_934.keep Kq948 nin0).keep Kq956 nin0)
              have f1016 := ((d_right_934.keep Kq948 nin0).keep Kq956 nin0)
              have f1017 := (f958.keep Kq956)
              have f1018 := ((d_key_934.keep Kq948 nin0).keep Kq956 nin0)
              have f1019 := (f960.keep Kq956)
              have f1020 := (((f933.keep Kq934 (ninS nx932 (ninS ne_ax_793_an_799 nin0))).keep Kq948 nin0).keep Kq956 nin0)
              have f1021 := ((b_left_934.keep Kq948 nin0).keep Kq956 nin0)
              have f1022 := ((b_right_934.keep Kq948 nin0).keep Kq956 nin0)
              have f1023 := (f959.keep Kq956)
              have f1024 := ((b_key_934.keep Kq948 nin0).keep Kq956 nin0)
              have f1025 := (f962.keep Kq956)
              have f1026 := (f964.keep Kq956)
              have nx1027 : ax_811 ≠ b738 := Exa.ne f1025 f1026 (by decide)
              have nx1028 : ax_811 ≠ an_799 := Exa.ne f1025 f1017 (by decide)
              have f1029 := (((f940.keep Kq934 (ninS nx1027 (ninS nx1028 nin0))).keep Kq948 nin0).keep Kq956 nin0)
              have f1030 := ((d_parent_934.keep Kq948 nin0).keep Kq956 nin0)
              have f1031 := ((d_red_934.keep Kq948 nin0).keep Kq956 nin0)
              have f1032 := ((b_parent_934.keep Kq948 nin0).keep Kq956 nin0)
              have f1033 := ((b_red_934.keep Kq948 nin0).keep Kq956 nin0)
              have f1035 := ((q_comparator_934.keep Kq948 nin0).keep Kq956 nin0)
              have f1036 := ((q_root_934.keep Kq948 nin0).keep Kq956 nin0)
              have f1037 := ((q_size_934.keep Kq948 nin0).keep Kq956 nin0)
              have f1038 := ((q_modCount_934.keep Kq948 nin0).keep Kq956 nin0)
              have f1039 := (E1_948.keep Kq956)
              have f1040 := (F1_948.keep Kq956 nin0)
              obtain ⟨cq1034, kq1034, q1034a, q1034b, q1034c⟩ := isOf hZ e956 f1026
              obtain ⟨_, _, ⟨T1034, L1034, k1034, n1034⟩, -, X1034, ⟨Lc1034, hQ1034, l1034, y1034, z1034⟩, st1034⟩ := X956.virtualBack hx (y := (⟨"gatherwick/maps/GwTreeMap", "put", "(Ljava/lang/Object;Ljava/lang/Object;)Ljava/lang/Object;"⟩ : MethodName)) (z := (⟨"gatherwick/maps/GwTreeMap", "put", "(Ljava/lang/Object;Ljava/lang/Object;)Ljava/lang/Object;"⟩ : MethodName)) hown (mvT hZ (own_w hw 84 rfl)) (mvT hZ (own_w hw 85 rfl)) (notFace_of_selects (args := #[]) (mvT hZ (own_w hw 87 rfl))) (mvT hZ (own_w hw 87 rfl)) (mvT hZ (own_w hw 86 rfl)) (by decide) (backOf (W := 0) (rmUW l Z a0 hw [] b738 ax_948 ax_956 k3 (2 : Int32) (2 : Int32) an_799 an_934 ax_793 (1 : Int32) true k1 [(an_934, ax_811, k2)] h956 n0 Z956 f1026 g_b738 f1035 f1036 f1037 f1038 f1039 f1040 ⟨f1017, f1018, f1019, f1020, (fun _ => f1015), (fun z => absurd z (own_gtnl q3)), ⟨f1023, f1024, f1025, f1029, (fun _ => f1021), (fun z => absurd z (own_gtnl q4)), trivial⟩⟩ ((own_sn_lt q3).trans (own_sn_lt q4)) ((own_sp_lt q3).trans (own_sp_lt q4)) ((own_sl_lt q3).trans (own_sl_lt q4)) (by decide) f1017 g_an_799 f1023 g_an_934 ne_an_799_an_934 ⟨f1015, f1016, f1030, f1031, f1021, f1022, f1032, f1033⟩ (Or.inr rfl)) hZ (own_w hw 88 rfl) (own_w hw 2 rfl) (by decide) (by decide)) q1034a q1034c (g := (mkF m 73 #[.val (.int inn), .val (.int k1), .val (.int k2), .val (.int k3), .val (.int iv), .val (.int iw), .val (.int cn), .val (.ref b738), .unset, .unset] [(.ref ax_956), (.ref ax_948), (.ref b738)])) rfl (by rw [hml]; rfl) (Steps.refl _) (argsL := [(.ref ax_948), (.ref ax_956)]) (rest := []) (lenOf pd__Ljava_lang_Object_Ljava_lang_Object__Ljava_lang_Object_ rfl) rfl (by show 2 * 0 + _ ≤ _; exact Nat.le_of_eq rfl) (hb hby at_73) (fun _ _ => ⟨rfl, e956, (by decide : 11 + 2 ≤ _), (by decide : 29 + 9 ≤ _)⟩)
              dsimp only [Pt.U, Pt.locs, Pt.cells, Pt.slots] at X1034 l1034 y1034 z1034 st1034 hQ1034
              subst l1034 y1034 z1034
              obtain ⟨h1034, e1034⟩ : ∃ h, T1034.heap = h := ⟨_, rfl⟩
              rw [e1034] at hQ1034
              have f1041 := (f961.keep Kq956)
              have f1042 := (f963.keep Kq956)
              obtain ⟨nr_1034, rfl, Nq1034, Kq1034, q_comparator_1034, q_root_1034, q_size_1034, q_modCount_1034⟩ := hQ1034
              have N1034 := Fr.app N956 Nq1034
              have Z1034 : n0 ≤ h1034.size := Nat.le_trans Z956 Kq1034.1
              have q_size_1034 : Fld Z h1034 b738 "gatherwick/maps/GwTreeMap" "size" "I" (.int (3 : Int32)) := q_size_1034
              have q_modCount_1034 : Fld Z h1034 b738 "gatherwick/maps/GwTreeMap" "modCount" "I" (.int (3 : Int32)) := q_modCount_1034
              refine Go.trans st1034 ?_
              show Go _ _ _ _ _ _ _ T1034 (mkF m 76 #[.val (.int inn), .val (.int k1), .val (.int k2), .val (.int k3), .val (.int iv), .val (.int iw), .val (.int cn), .val (.ref b738), .unset, .unset] [.null])
              refine Go.step (fun _ k => XS.pop X1034.here hx rfl (hb hby at_76) rfl rfl k) ?_
              show Go _ _ _ _ _ _ _ T1034 (mkF m 77 #[.val (.int inn), .val (.int k1), .val (.int k2), .val (.int k3), .val (.int iv), .val (.int iw), .val (.int cn), .val (.ref b738), .unset, .unset] [])
              have f1043 := (f1026.keep Kq1034)
              have f1044 := ((f957.keep Kq956 all0).keep Kq1034 (allS g_b738 (allS g_an_799 (allS g_an_934 all0))))
              exact J T1034 h1034 _ (.ref nr_1034) (3 : Int32) (3 : Int32) (X1034.more (by decide) (by decide)) e1034 N1034 Z1034 f1043 q_comparator_1034 q_root_1034 q_size_1034 q_modCount_1034 f1044 (fun q => absurd (by decide) q)
            · show Go _ _ _ _ _ _ _ T956 (mkF m 73 #[.val (.int inn), .val (.int k1), .val (.int k2), .val (.int k3), .val (.int iv), .val (.int iw), .val (.int cn), .val (.ref b738), .unset, .unset] [(.ref ax_956), (.ref ax_948), (.ref b738)])
              have f1045 := ((d_left_934.keep Kq948 nin0).keep Kq956 nin0)
              have f1046 := ((d_right_934.keep Kq948 nin0).keep Kq956 nin0)
              have f1047 := (f958.keep Kq956)
              have f1048 := ((d_key_934.keep Kq948 nin0).keep Kq956 nin0)
              have f1049 := (f960.keep Kq956)
              have f1050 := (((f933.keep Kq934 (ninS nx932 (ninS ne_ax_793_an_799 nin0))).keep Kq948 nin0).keep Kq956 nin0)
              have f1051 := ((b_left_934.keep Kq948 nin0).keep Kq956 nin0)
              have f1052 := ((b_right_934.keep Kq948 nin0).keep Kq956 nin0)
              have f1053 := (f959.keep Kq956)
              have f1054 := ((b_key_934.keep Kq948 nin0).keep Kq956 nin0)
              have f1055 := (f962.keep Kq956)
              have f1056 := (f964.keep Kq956)
              have nx1057 : ax_811 ≠ b738 := Exa.ne f1055 f1056 (by decide)
              have nx1058 : ax_811 ≠ an_799 := Exa.ne f1055 f1047 (by decide)
              have f1059 := (((f940.keep Kq934 (ninS nx1057 (ninS nx1058 nin0))).keep Kq948 nin0).keep Kq956 nin0)
              have f1060 := ((d_parent_934.keep Kq948 nin0).keep Kq956 nin0)
              have f1061 := ((d_red_934.keep Kq948 nin0).keep Kq956 nin0)
              have f1062 := ((b_parent_934.keep Kq948 nin0).keep Kq956 nin0)
              have f1063 := ((b_red_934.keep Kq948 nin0).keep Kq956 nin0)
              have f1065 := ((q_comparator_934.keep Kq948 nin0).keep Kq956 nin0)
              have f1066 := ((q_root_934.keep Kq948 nin0).keep Kq956 nin0)
              have f1067 := ((q_size_934.keep Kq948 nin0).keep Kq956 nin0)
              have f1068 := ((q_modCount_934.keep Kq948 nin0).keep Kq956 nin0)
              have f1069 := (E1_948.keep Kq956)
              have f1070 := (F1_948.keep Kq956 nin0)
              obtain ⟨cq1064, kq1064, q1064a, q1064b, q1064c⟩ := isOf hZ e956 f1056
              obtain ⟨_, _, ⟨T1064, L1064, k1064, n1064⟩, -, X1064, ⟨Lc1064, hQ1064, l1064, y1064, z1064⟩, st1064⟩ := X956.virtualBack hx (y := (⟨"gatherwick/maps/GwTreeMap", "put", "(Ljava/lang/Object;Ljava/lang/Object;)Ljava/lang/Object;"⟩ : MethodName)) (z := (⟨"gatherwick/maps/GwTreeMap", "put", "(Ljava/lang/Object;Ljava/lang/Object;)Ljava/lang/Object;"⟩ : MethodName)) hown (mvT hZ (own_w hw 84 rfl)) (mvT hZ (own_w hw 85 rfl)) (notFace_of_selects (args := #[]) (mvT hZ (own_w hw 87 rfl))) (mvT hZ (own_w hw 87 rfl)) (mvT hZ (own_w hw 86 rfl)) (by decide) (backOf (W := 0) (rmUW l Z a0 hw [] b738 ax_948 ax_956 k3 (2 : Int32) (2 : Int32) an_799 an_934 ax_793 (0 : Int32) true k1 [(an_934, ax_811, k2)] h956 n0 Z956 f1056 g_b738 f1065 f1066 f1067 f1068 f1069 f1070 ⟨f1047, f1048, f1049, f1050, (fun _ => f1045), (fun z => absurd z (own_gtnl q3)), ⟨f1053, f1054, f1055, f1059, (fun z => absurd z (own_gtnl q4)), (fun _ => f1052), trivial⟩⟩ ((own_sn_lt q3).trans (own_sn_gt q4)) ((own_sp_lt q3).trans (own_sp_gt q4)) ((own_sl_lt q3).trans (own_sl_gt q4)) (by decide) f1047 g_an_799 f1053 g_an_934 ne_an_799_an_934 ⟨f1045, f1046, f1060, f1061, f1051, f1052, f1062, f1063⟩ (Or.inl rfl)) hZ (own_w hw 88 rfl) (own_w hw 2 rfl) (by decide) (by decide)) q1064a q1064c (g := (mkF m 73 #[.val (.int inn), .val (.int k1), .val (.int k2), .val (.int k3), .val (.int iv), .val (.int iw), .val (.int cn), .val (.ref b738), .unset, .unset] [(.ref ax_956), (.ref ax_948), (.ref b738)])) rfl (by rw [hml]; rfl) (Steps.refl _) (argsL := [(.ref ax_948), (.ref ax_956)]) (rest := []) (lenOf pd__Ljava_lang_Object_Ljava_lang_Object__Ljava_lang_Object_ rfl) rfl (by show 2 * 0 + _ ≤ _; exact Nat.le_of_eq rfl) (hb hby at_73) (fun _ _ => ⟨rfl, e956, (by decide : 11 + 2 ≤ _), (by decide : 29 + 9 ≤ _)⟩)
              dsimp only [Pt.U, Pt.locs, Pt.cells, Pt.slots] at X1064 l1064 y1064 z1064 st1064 hQ1064
              subst l1064 y1064 z1064
              obtain ⟨h1064, e1064⟩ : ∃ h, T1064.heap = h := ⟨_, rfl⟩
              rw [e1064] at hQ1064
              have f1071 := (f961.keep Kq956)
              have f1072 := (f963.keep Kq956)
              obtain ⟨nr_1064, rfl, Nq1064, Kq1064, q_comparator_1064, q_root_1064, q_size_1064, q_modCount_1064⟩ := hQ1064
              have N1064 := Fr.app N956 Nq1064
              have Z1064 : n0 ≤ h1064.size := Nat.le_trans Z956 Kq1064.1
              have q_size_1064 : Fld Z h1064 b738 "gatherwick/maps/GwTreeMap" "size" "I" (.int (3 : Int32)) := q_size_1064
              have q_modCount_1064 : Fld Z h1064 b738 "gatherwick/maps/GwTreeMap" "modCount" "I" (.int (3 : Int32)) := q_modCount_1064
              refine Go.trans st1064 ?_
              show Go _ _ _ _ _ _ _ T1064 (mkF m 76 #[.val (.int inn), .val (.int k1), .val (.int k2), .val (.int k3), .val (.int iv), .val (.int iw), .val (.int cn), .val (.ref b738), .unset, .unset] [.null])
              refine Go.step (fun _ k => XS.pop X1064.here hx rfl (hb hby at_76) rfl rfl k) ?_
              show Go _ _ _ _ _ _ _ T1064 (mkF m 77 #[.val (.int inn), .val (.int k1), .val (.int k2), .val (.int k3), .val (.int iv), .val (.int iw), .val (.int cn), .val (.ref b738), .unset, .unset] [])
              have f1073 := (f1056.keep Kq1064)
              have f1074 := ((f957.keep Kq956 all0).keep Kq1064 (allS g_b738 (allS g_an_799 (allS g_an_934 all0))))
              exact J T1064 h1064 _ (.ref nr_1064) (3 : Int32) (3 : Int32) (X1064.more (by decide) (by decide)) e1064 N1064 Z1064 f1073 q_comparator_1064 q_root_1064 q_size_1064 q_modCount_1064 f1074 (fun q => absurd (by decide) q)
          · show Go _ _ _ _ _ _ _ T956 (mkF m 73 #[.val (.int inn), .val (.int k1), .val (.int k2), .val (.int k3), .val (.int iv), .val (.int iw), .val (.int cn), .val (.ref b738), .unset, .unset] [(.ref ax_956), (.ref ax_948), (.ref b738)])
            have f1075 := ((d_left_934.keep Kq948 nin0).keep Kq956 nin0)
            have f1076 := ((d_right_934.keep Kq948 nin0).keep Kq956 nin0)
            have f1077 := (f958.keep Kq956)
            have f1078 := ((d_key_934.keep Kq948 nin0).keep Kq956 nin0)
            have f1079 := (f960.keep Kq956)
            have f1080 := (((f933.keep Kq934 (ninS nx932 (ninS ne_ax_793_an_799 nin0))).keep Kq948 nin0).keep Kq956 nin0)
            have f1082 := (f964.keep Kq956)
            have f1083 := ((q_comparator_934.keep Kq948 nin0).keep Kq956 nin0)
            have f1084 := ((q_root_934.keep Kq948 nin0).keep Kq956 nin0)
            have f1085 := ((q_size_934.keep Kq948 nin0).keep Kq956 nin0)
            have f1086 := ((q_modCount_934.keep Kq948 nin0).keep Kq956 nin0)
            have f1087 := (E1_948.keep Kq956)
            have f1088 := (F1_948.keep Kq956 nin0)
            have f1089 := ((d_value_934.keep Kq948 nin0).keep Kq956 nin0)
            have f1090 := ((d_parent_934.keep Kq948 nin0).keep Kq956 nin0)
            have f1091 := ((d_red_934.keep Kq948 nin0).keep Kq956 nin0)
            obtain ⟨cq1081, kq1081, q1081a, q1081b, q1081c⟩ := isOf hZ e956 f1082
            obtain ⟨_, _, ⟨T1081, L1081, k1081, n1081⟩, -, X1081, ⟨Lc1081, hQ1081, l1081, y1081, z1081⟩, st1081⟩ := X956.virtualBack hx (y := (⟨"gatherwick/maps/GwTreeMap", "put", "(Ljava/lang/Object;Ljava/lang/Object;)Ljava/lang/Object;"⟩ : MethodName)) (z := (⟨"gatherwick/maps/GwTreeMap", "put", "(Ljava/lang/Object;Ljava/lang/Object;)Ljava/lang/Object;"⟩ : MethodName)) hown (mvT hZ (own_w hw 84 rfl)) (mvT hZ (own_w hw 85 rfl)) (notFace_of_selects (args := #[]) (mvT hZ (own_w hw 87 rfl))) (mvT hZ (own_w hw 87 rfl)) (mvT hZ (own_w hw 86 rfl)) (by decide) (backOf (W := 0) (rmUOr l Z a0 hw [] b738 ax_948 ax_956 k3 (2 : Int32) (2 : Int32) an_799 ax_793 ax_796 (.ref an_934) k1 [] h956 n0 Z956 f1082 g_b738 f1083 f1084 f1085 f1086 f1087 f1088 ⟨f1077, f1078, f1079, f1080, (fun z => absurd z (own_gtnl q3)), (fun _ => f1076), trivial⟩ ((own_sn_gt q3)) ((own_sp_gt q3)) ((own_sl_gt q3)) (by decide) f1077 g_an_799 f1078 f1089 f1076 f1075 f1090 f1091) hZ (own_w hw 88 rfl) (own_w hw 2 rfl) (by decide) (by decide)) q1081a q1081c (g := (mkF m 73 #[.val (.int inn), .val (.int k1), .val (.int k2), .val (.int k3), .val (.int iv), .val (.int iw), .val (.int cn), .val (.ref b738), .unset, .unset] [(.ref ax_956), (.ref ax_948), (.ref b738)])) rfl (by rw [hml]; rfl) (Steps.refl _) (argsL := [(.ref ax_948), (.ref ax_956)]) (rest := []) (lenOf pd__Ljava_lang_Object_Ljava_lang_Object__Ljava_lang_Object_ rfl) rfl (by show 2 * 0 + _ ≤ _; exact Nat.le_of_eq rfl) (hb hby at_73) (fun _ _ => ⟨rfl, e956, (by decide : 11 + 2 ≤ _), (by decide : 29 + 9 ≤ _)⟩)
            dsimp only [Pt.U, Pt.locs, Pt.cells, Pt.slots] at X1081 l1081 y1081 z1081 st1081 hQ1081
            subst l1081 y1081 z1081
            obtain ⟨h1081, e1081⟩ : ∃ h, T1081.heap = h := ⟨_, rfl⟩
            rw [e1081] at hQ1081
            have f1092 := (f959.keep Kq956)
            have f1093 := (f961.keep Kq956)
            have f1094 := (f962.keep Kq956)
            have f1095 := (f963.keep Kq956)
            obtain ⟨an_1081, rfl, Nq1081, Kq1081, szn_1081, E_n_1081, b_key_1081, b_value_1081, b_left_1081, b_right_1081, b_parent_1081, b_red_1081, d_key_1081, d_value_1081, d_right_1081, d_left_1081, d_parent_1081, d_red_1081, q_comparator_1081, q_root_1081, q_size_1081, q_modCount_1081⟩ := hQ1081
            have N1081 := Fr.app N956 Nq1081
            have Z1081 : n0 ≤ h1081.size := Nat.le_trans Z956 Kq1081.1
            have g_an_1081 : n0 ≤ an_1081 := Nat.le_trans Z956 szn_1081
            have ne_an_799_an_1081 : an_799 ≠ an_1081 := Nat.ne_of_lt (Nat.lt_of_lt_of_le f1077.lt szn_1081)
            have ne_an_934_an_1081 : an_934 ≠ an_1081 := Nat.ne_of_lt (Nat.lt_of_lt_of_le f1092.lt szn_1081)
            have ne_ax_793_an_1081 : ax_793 ≠ an_1081 := Nat.ne_of_lt (Nat.lt_of_lt_of_le f1079.lt szn_1081)
            have ne_ax_796_an_1081 : ax_796 ≠ an_1081 := Nat.ne_of_lt (Nat.lt_of_lt_of_le f1093.lt szn_1081)
            have ne_ax_811_an_1081 : ax_811 ≠ an_1081 := Nat.ne_of_lt (Nat.lt_of_lt_of_le f1094.lt szn_1081)
            have ne_ax_816_an_1081 : ax_816 ≠ an_1081 := Nat.ne_of_lt (Nat.lt_of_lt_of_le f1095.lt szn_1081)
            have ne_ax_948_an_1081 : ax_948 ≠ an_1081 := Nat.ne_of_lt (Nat.lt_of_lt_of_le f1087.lt szn_1081)
            have ne_ax_956_an_1081 : ax_956 ≠ an_1081 := Nat.ne_of_lt (Nat.lt_of_lt_of_le E1_956.lt szn_1081)
            have ne_b738_an_1081 : b738 ≠ an_1081 := Nat.ne_of_lt (Nat.lt_of_lt_of_le f1082.lt szn_1081)
            have q_size_1081 : Fld Z h1081 b738 "gatherwick/maps/GwTreeMap" "size" "I" (.int (3 : Int32)) := q_size_1081
            have q_modCount_1081 : Fld Z h1081 b738 "gatherwick/maps/GwTreeMap" "modCount" "I" (.int (3 : Int32)) := q_modCount_1081
            refine Go.trans st1081 ?_
            show Go _ _ _ _ _ _ _ T1081 (mkF m 76 #[.val (.int inn), .val (.int k1), .val (.int k2), .val (.int k3), .val (.int iv), .val (.int iw), .val (.int cn), .val (.ref b738), .unset, .unset] [.null])
            refine Go.step (fun _ k => XS.pop X1081.here hx rfl (hb hby at_76) rfl rfl k) ?_
            show Go _ _ _ _ _ _ _ T1081 (mkF m 77 #[.val (.int inn), .val (.int k1), .val (.int k2), .val (.int k3), .val (.int iv), .val (.int iw), .val (.int cn), .val (.ref b738), .unset, .unset] [])
            have f1096 := (f1082.keep Kq1081)
            have f1097 := ((f957.keep Kq956 all0).keep Kq1081 (allS g_b738 (allS g_an_799 all0)))
            exact J T1081 h1081 _ (.ref an_799) (3 : Int32) (3 : Int32) (X1081.more (by decide) (by decide)) e1081 N1081 Z1081 f1096 q_comparator_1081 q_root_1081 q_size_1081 q_modCount_1081 f1097 (fun q => absurd (by decide) q)
      · show Go _ _ _ _ _ _ _ T816 (mkF m 52 #[.val (.int inn), .val (.int k1), .val (.int k2), .val (.int k3), .val (.int iv), .val (.int iw), .val (.int cn), .val (.ref b738), .unset, .unset] [(.ref ax_816), (.ref ax_811), (.ref b738)])
        have f1098 := ((b_left_799.keep Kq811 nin0).keep Kq816 nin0)
        have f1099 := ((b_right_799.keep Kq811 nin0).keep Kq816 nin0)
        have f1100 := (f818.keep Kq816)
        have f1101 := ((b_key_799.keep Kq811 nin0).keep Kq816 nin0)
        have f1102 := (f819.keep Kq816)
        have f1103 := (f821.keep Kq816)
        have nx1104 : ax_793 ≠ b738 := Exa.ne f1102 f1103 (by decide)
        have f1105 := (((f806.keep Kq799 (ninS nx1104 nin0)).keep Kq811 nin0).keep Kq816 nin0)
        have f1107 := ((q_comparator_799.keep Kq811 nin0).keep Kq816 nin0)
        have f1108 := ((q_root_799.keep Kq811 nin0).keep Kq816 nin0)
        have f1109 := ((q_size_799.keep Kq811 nin0).keep Kq816 nin0)
        have f1110 := ((q_modCount_799.keep Kq811 nin0).keep Kq816 nin0)
        have f1111 := (E1_811.keep Kq816)
        have f1112 := (F1_811.keep Kq816 nin0)
        have f1113 := ((b_value_799.keep Kq811 nin0).keep Kq816 nin0)
        have f1114 := ((b_parent_799.keep Kq811 nin0).keep Kq816 nin0)
        have f1115 := ((b_red_799.keep Kq811 nin0).keep Kq816 nin0)
        obtain ⟨cq1106, kq1106, q1106a, q1106b, q1106c⟩ := isOf hZ e816 f1103
        obtain ⟨_, _, ⟨T1106, L1106, k1106, n1106⟩, -, X1106, ⟨Lc1106, hQ1106, l1106, y1106, z1106⟩, st1106⟩ := X816.virtualBack hx (y := (⟨"gatherwick/maps/GwTreeMap", "put", "(Ljava/lang/Object;Ljava/lang/Object;)Ljava/lang/Object;"⟩ : MethodName)) (z := (⟨"gatherwick/maps/GwTreeMap", "put", "(Ljava/lang/Object;Ljava/lang/Object;)Ljava/lang/Object;"⟩ : MethodName)) hown (mvT hZ (own_w hw 84 rfl)) (mvT hZ (own_w hw 85 rfl)) (notFace_of_selects (args := #[]) (mvT hZ (own_w hw 87 rfl))) (mvT hZ (own_w hw 87 rfl)) (mvT hZ (own_w hw 86 rfl)) (by decide) (backOf (W := 0) (rmUOr l Z a0 hw [] b738 ax_811 ax_816 k2 (1 : Int32) (1 : Int32) an_799 ax_793 ax_796 .null k1 [] h816 n0 Z816 f1103 g_b738 f1107 f1108 f1109 f1110 f1111 f1112 ⟨f1100, f1101, f1102, f1105, (fun z => absurd z (own_gtnl q2)), (fun _ => f1099), trivial⟩ ((own_sn_gt q2)) ((own_sp_gt q2)) ((own_sl_gt q2)) (by decide) f1100 g_an_799 f1101 f1113 f1099 f1098 f1114 f1115) hZ (own_w hw 88 rfl) (own_w hw 2 rfl) (by decide) (by decide)) q1106a q1106c (g := (mkF m 52 #[.val (.int inn), .val (.int k1), .val (.int k2), .val (.int k3), .val (.int iv), .val (.int iw), .val (.int cn), .val (.ref b738), .unset, .unset] [(.ref ax_816), (.ref ax_811), (.ref b738)])) rfl (by rw [hml]; rfl) (Steps.refl _) (argsL := [(.ref ax_811), (.ref ax_816)]) (rest := []) (lenOf pd__Ljava_lang_Object_Ljava_lang_Object__Ljava_lang_Object_ rfl) rfl (by show 2 * 0 + _ ≤ _; exact Nat.le_of_eq rfl) (hb hby at_52) (fun _ _ => ⟨rfl, e816, (by decide : 7 + 2 ≤ _), (by decide : 18 + 9 ≤ _)⟩)
        dsimp only [Pt.U, Pt.locs, Pt.cells, Pt.slots] at X1106 l1106 y1106 z1106 st1106 hQ1106
        subst l1106 y1106 z1106
        obtain ⟨h1106, e1106⟩ : ∃ h, T1106.heap = h := ⟨_, rfl⟩
        rw [e1106] at hQ1106
        have f1116 := (f820.keep Kq816)
        obtain ⟨an_1106, rfl, Nq1106, Kq1106, szn_1106, E_n_1106, b_key_1106, b_value_1106, b_left_1106, b_right_1106, b_parent_1106, b_red_1106, d_key_1106, d_value_1106, d_right_1106, d_left_1106, d_parent_1106, d_red_1106, q_comparator_1106, q_root_1106, q_size_1106, q_modCount_1106⟩ := hQ1106
        have N1106 := Fr.app N816 Nq1106
        have Z1106 : n0 ≤ h1106.size := Nat.le_trans Z816 Kq1106.1
        have g_an_1106 : n0 ≤ an_1106 := Nat.le_trans Z816 szn_1106
        have ne_an_799_an_1106 : an_799 ≠ an_1106 := Nat.ne_of_lt (Nat.lt_of_lt_of_le f1100.lt szn_1106)
        have ne_ax_793_an_1106 : ax_793 ≠ an_1106 := Nat.ne_of_lt (Nat.lt_of_lt_of_le f1102.lt szn_1106)
        have ne_ax_796_an_1106 : ax_796 ≠ an_1106 := Nat.ne_of_lt (Nat.lt_of_lt_of_le f1116.lt szn_1106)
        have ne_ax_811_an_1106 : ax_811 ≠ an_1106 := Nat.ne_of_lt (Nat.lt_of_lt_of_le f1111.lt szn_1106)
        have ne_ax_816_an_1106 : ax_816 ≠ an_1106 := Nat.ne_of_lt (Nat.lt_of_lt_of_le E1_816.lt szn_1106)
        have ne_b738_an_1106 : b738 ≠ an_1106 := Nat.ne_of_lt (Nat.lt_of_lt_of_le f1103.lt szn_1106)
        have q_size_1106 : Fld Z h1106 b738 "gatherwick/maps/GwTreeMap" "size" "I" (.int (2 : Int32)) := q_size_1106
        have q_modCount_1106 : Fld Z h1106 b738 "gatherwick/maps/GwTreeMap" "modCount" "I" (.int (2 : Int32)) := q_modCount_1106
        refine Go.trans st1106 ?_
        show Go _ _ _ _ _ _ _ T1106 (mkF m 55 #[.val (.int inn), .val (.int k1), .val (.int k2), .val (.int k3), .val (.int iv), .val (.int iw), .val (.int cn), .val (.ref b738), .unset, .unset] [.null])
        refine Go.step (fun _ k => XS.pop X1106.here hx rfl (hb hby at_55) rfl rfl k) ?_
        show Go _ _ _ _ _ _ _ T1106 (mkF m 56 #[.val (.int inn), .val (.int k1), .val (.int k2), .val (.int k3), .val (.int iv), .val (.int iw), .val (.int cn), .val (.ref b738), .unset, .unset] [])
        refine Go.step (fun _ k => XS.iload X1106.here hx rfl (hb hby at_56) rfl k) ?_
        refine Go.step (fun _ k => XS.iconst X1106.here hx rfl (hb hby at_58) k) ?_
        by_cases hc59_1117 : cn < (3 : Int32)
        · refine Go.step (fun _ k => XS.icmpYes X1106.here hx rfl (pc0 := 59) (pc' := 77) rfl (hb hby at_59) rfl (tlt hc59_1117).1 (by decide) (by decide) k) ?_
          show Go _ _ _ _ _ _ _ T1106 (mkF m 77 #[.val (.int inn), .val (.int k1), .val (.int k2), .val (.int k3), .val (.int iv), .val (.int iw), .val (.int cn), .val (.ref b738), .unset, .unset] [])
          have f1118 := (f1103.keep Kq1106)
          have f1119 := ((f817.keep Kq816 all0).keep Kq1106 (allS g_b738 (allS g_an_799 all0)))
          exact J T1106 h1106 _ (.ref an_799) (2 : Int32) (2 : Int32) (X1106.more (by decide) (by decide)) e1106 N1106 Z1106 f1118 q_comparator_1106 q_root_1106 q_size_1106 q_modCount_1106 f1119 (fun q => absurd (by decide) q)
        · refine Go.step (fun _ k => XS.icmpNo X1106.here hx rfl (hb hby at_59) rfl (flt hc59_1117).1 k) ?_
          show Go _ _ _ _ _ _ _ T1106 (mkF m 62 #[.val (.int inn), .val (.int k1), .val (.int k2), .val (.int k3), .val (.int iv), .val (.int iw), .val (.int cn), .val (.ref b738), .unset, .unset] [])
          refine Go.step (fun _ k => XS.aload X1106.here hx rfl (hb hby at_62) rfl rfl k) ?_
          refine Go.step (fun _ k => XS.iloadN X1106.here hx rfl (hb hby at_64) rfl k) ?_
          have f1121 := ((f817.keep Kq816 all0).keep Kq1106 (allS g_b738 (allS g_an_799 all0)))
          obtain ⟨_, _, ⟨T1120, L1120, k1120, n1120⟩, -, X1120, ⟨Lc1120, hQ1120, l1120, y1120, z1120⟩, st1120⟩ := Jvm.LawKit.callS X1106 hx (y := (⟨"java/lang/Integer", "valueOf", "(I)Ljava/lang/Integer;"⟩ : MethodName)) hown (mvT hZ (own_w hw 28 rfl)) (mvT hZ (own_w hw 29 rfl)) (mvT hZ (own_w hw 30 rfl)) (mvT hZ (own_w hw 31 rfl)) (by decide) (backOf (W := 1) (rmVo l Z a0 hw [] k3 ac cc h1106 n0 Z1106 f1121 SH SC BX) hZ (own_w hw 31 rfl) (own_w hw 30 rfl) (by decide) (by decide)) (g := (mkF m 65 #[.val (.int inn), .val (.int k1), .val (.int k2), .val (.int k3), .val (.int iv), .val (.int iw), .val (.int cn), .val (.ref b738), .unset, .unset] [(.int k3), (.ref b738)])) rfl (by rw [hml]; rfl) (argsL := [(.int k3)]) (rest := [(.ref b738)]) (lenOf pd__I_Ljava_lang_Integer_ rfl) rfl (by show 2 * 0 + _ ≤ _; exact Nat.le_of_eq rfl) (hb hby at_65) (fun _ _ => ⟨rfl, e1106, (by decide : 9 + 1 ≤ _), (by decide : 27 + 1 ≤ _)⟩)
          dsimp only [Pt.U, Pt.locs, Pt.cells, Pt.slots] at X1120 l1120 y1120 z1120 st1120 hQ1120
          subst l1120 y1120 z1120
          obtain ⟨h1120, e1120⟩ : ∃ h, T1120.heap = h := ⟨_, rfl⟩
          rw [e1120] at hQ1120
          have f1122 := (f1100.keep Kq1106)
          have f1123 := (f1102.keep Kq1106)
          have f1124 := (f1116.keep Kq1106)
          have f1125 := (f1111.keep Kq1106)
          have f1126 := (E1_816.keep Kq1106)
          have f1127 := (f1103.keep Kq1106)
          obtain ⟨ax_1120, rfl, Nq1120, Kq1120, E1_1120, F1_1120⟩ := hQ1120
          have N1120 := Fr.app N1106 Nq1120
          have Z1120 : n0 ≤ h1120.size := Nat.le_trans Z1106 Kq1120.1
          refine Go.step st1120 ?_
          show Go _ _ _ _ _ _ _ T1120 (mkF m 68 #[.val (.int inn), .val (.int k1), .val (.int k2), .val (.int k3), .val (.int iv), .val (.int iw), .val (.int cn), .val (.ref b738), .unset, .unset] [(.ref ax_1120), (.ref b738)])
          refine Go.step (fun _ k => XS.iload X1120.here hx rfl (hb hby at_68) rfl k) ?_
          have f1129 := (f1121.keep Kq1120 all0)
          obtain ⟨_, _, ⟨T1128, L1128, k1128, n1128⟩, -, X1128, ⟨Lc1128, hQ1128, l1128, y1128, z1128⟩, st1128⟩ := Jvm.LawKit.callS X1120 hx (y := (⟨"java/lang/Integer", "valueOf", "(I)Ljava/lang/Integer;"⟩ : MethodName)) hown (mvT hZ (own_w hw 28 rfl)) (mvT hZ (own_w hw 29 rfl)) (mvT hZ (own_w hw 30 rfl)) (mvT hZ (own_w hw 31 rfl)) (by decide) (backOf (W := 2) (rmVo l Z a0 hw [] iv ac cc h1120 n0 Z1120 f1129 SH SC BX) hZ (own_w hw 31 rfl) (own_w hw 30 rfl) (by decide) (by decide)) (g := (mkF m 70 #[.val (.int inn), .val (.int k1), .val (.int k2), .val (.int k3), .val (.int iv), .val (.int iw), .val (.int cn), .val (.ref b738), .unset, .unset] [(.int iv), (.ref ax_1120), (.ref b738)])) rfl (by rw [hml]; rfl) (argsL := [(.int iv)]) (rest := [(.ref ax_1120), (.ref b738)]) (lenOf pd__I_Ljava_lang_Integer_ rfl) rfl (by show 2 * 0 + _ ≤ _; exact Nat.le_of_eq rfl) (hb hby at_70) (fun _ _ => ⟨rfl, e1120, (by decide : 10 + 1 ≤ _), (by decide : 28 + 1 ≤ _)⟩)
          dsimp only [Pt.U, Pt.locs, Pt.cells, Pt.slots] at X1128 l1128 y1128 z1128 st1128 hQ1128
          subst l1128 y1128 z1128
          obtain ⟨h1128, e1128⟩ : ∃ h, T1128.heap = h := ⟨_, rfl⟩
          rw [e1128] at hQ1128
          have f1130 := (E_n_1106.keep Kq1120)
          have f1131 := (f1122.keep Kq1120)
          have f1132 := (f1123.keep Kq1120)
          have f1133 := (f1124.keep Kq1120)
          have f1134 := (f1125.keep Kq1120)
          have f1135 := (f1126.keep Kq1120)
          have f1136 := (f1127.keep Kq1120)
          obtain ⟨ax_1128, rfl, Nq1128, Kq1128, E1_1128, F1_1128⟩ := hQ1128
          have N1128 := Fr.app N1120 Nq1128
          have Z1128 : n0 ≤ h1128.size := Nat.le_trans Z1120 Kq1128.1
          refine Go.step st1128 ?_
          show Go _ _ _ _ _ _ _ T1128 (mkF m 73 #[.val (.int inn), .val (.int k1), .val (.int k2), .val (.int k3), .val (.int iv), .val (.int iw), .val (.int cn), .val (.ref b738), .unset, .unset] [(.ref ax_1128), (.ref ax_1120), (.ref b738)])
          rcases own_tri k3 k1 with q3 | q3 | q3
          · show Go _ _ _ _ _ _ _ T1128 (mkF m 73 #[.val (.int inn), .val (.int k1), .val (.int k2), .val (.int k3), .val (.int iv), .val (.int iw), .val (.int cn), .val (.ref b738), .unset, .unset] [(.ref ax_1128), (.ref ax_1120), (.ref b738)])
            have f1137 := ((d_left_1106.keep Kq1120 nin0).keep Kq1128 nin0)
            have f1138 := ((d_right_1106.keep Kq1120 nin0).keep Kq1128 nin0)
            have f1139 := (f1131.keep Kq1128)
            have f1140 := ((d_key_1106.keep Kq1120 nin0).keep Kq1128 nin0)
            have f1141 := (f1132.keep Kq1128)
            have f1142 := (((f1105.keep Kq1106 (ninS nx1104 (ninS ne_ax_793_an_799 nin0))).keep Kq1120 nin0).keep Kq1128 nin0)
            have f1144 := (f1136.keep Kq1128)
            have f1145 := ((q_comparator_1106.keep Kq1120 nin0).keep Kq1128 nin0)
            have f1146 := ((q_root_1106.keep Kq1120 nin0).keep Kq1128 nin0)
            have f1147 := (E1_1120.keep Kq1128)
            have f1148 := (F1_1120.keep Kq1128 nin0)
            have f1149 := ((d_value_1106.keep Kq1120 nin0).keep Kq1128 nin0)
            have f1150 := ((d_parent_1106.keep Kq1120 nin0).keep Kq1128 nin0)
            have f1151 := ((d_red_1106.keep Kq1120 nin0).keep Kq1128 nin0)
            obtain ⟨cq1143, kq1143, q1143a, q1143b, q1143c⟩ := isOf hZ e1128 f1144
            obtain ⟨_, _, ⟨T1143, L1143, k1143, n1143⟩, -, X1143, ⟨Lc1143, hQ1143, l1143, y1143, z1143⟩, st1143⟩ := X1128.virtualBack hx (y := (⟨"gatherwick/maps/GwTreeMap", "put", "(Ljava/lang/Object;Ljava/lang/Object;)Ljava/lang/Object;"⟩ : MethodName)) (z := (⟨"gatherwick/maps/GwTreeMap", "put", "(Ljava/lang/Object;Ljava/lang/Object;)Ljava/lang/Object;"⟩ : MethodName)) hown (mvT hZ (own_w hw 84 rfl)) (mvT hZ (own_w hw 85 rfl)) (notFace_of_selects (args := #[]) (mvT hZ (own_w hw 87 rfl))) (mvT hZ (own_w hw 87 rfl)) (mvT hZ (own_w hw 86 rfl)) (by decide) (backOf (W := 0) (rmUE l Z a0 hw [] b738 ax_1120 ax_1128 k3 [(an_799, ax_793, k1)] an_799 ax_793 ax_796 .null (.ref an_1106) .null (0 : Int32) h1128 n0 Z1128 f1144 f1145 f1146 f1147 f1148 ⟨f1139, f1140, f1141, f1142, (fun z => absurd q3 (own_ltne z)), (fun z => absurd q3 (own_gtne z)), trivial⟩ ((own_sn_eq q3)) f1139 g_an_799 f1140 f1149 f1137 f1138 f1150 f1151) hZ (own_w hw 88 rfl) (own_w hw 2 rfl) (by decide) (by decide)) q1143a q1143c (g := (mkF m 73 #[.val (.int inn), .val (.int k1), .val (.int k2), .val (.int k3), .val (.int iv), .val (.int iw), .val (.int cn), .val (.ref b738), .unset, .unset] [(.ref ax_1128), (.ref ax_1120), (.ref b738)])) rfl (by rw [hml]; rfl) (Steps.refl _) (argsL := [(.ref ax_1120), (.ref ax_1128)]) (rest := []) (lenOf pd__Ljava_lang_Object_Ljava_lang_Object__Ljava_lang_Object_ rfl) rfl (by show 2 * 0 + _ ≤ _; exact Nat.le_of_eq rfl) (hb hby at_73) (fun _ _ => ⟨rfl, e1128, (by decide : 11 + 1 ≤ _), (by decide : 29 + 3 ≤ _)⟩)
            dsimp only [Pt.U, Pt.locs, Pt.cells, Pt.slots] at X1143 l1143 y1143 z1143 st1143 hQ1143
            subst l1143 y1143 z1143
            obtain ⟨h1143, e1143⟩ : ∃ h, T1143.heap = h := ⟨_, rfl⟩
            rw [e1143] at hQ1143
            obtain ⟨rfl, Nq1143, Kq1143, b_key_1143, b_value_1143, b_left_1143, b_right_1143, b_parent_1143, b_red_1143⟩ := hQ1143
            have N1143 := Fr.app N1128 Nq1143
            have Z1143 : n0 ≤ h1143.size := Nat.le_trans Z1128 Kq1143.1
            have b_red_1143 : Fld Z h1143 an_799 "gatherwick/maps/RedBlackTree$Node" "red" "Z" (.int (0 : Int32)) := b_red_1143
            refine Go.trans st1143 ?_
            show Go _ _ _ _ _ _ _ T1143 (mkF m 76 #[.val (.int inn), .val (.int k1), .val (.int k2), .val (.int k3), .val (.int iv), .val (.int iw), .val (.int cn), .val (.ref b738), .unset, .unset] [(.ref ax_796)])
            refine Go.step (fun _ k => XS.pop X1143.here hx rfl (hb hby at_76) rfl rfl k) ?_
            show Go _ _ _ _ _ _ _ T1143 (mkF m 77 #[.val (.int inn), .val (.int k1), .val (.int k2), .val (.int k3), .val (.int iv), .val (.int iw), .val (.int cn), .val (.ref b738), .unset, .unset] [])
            have f1152 := (f1144.keep Kq1143)
            have f1153 := (f1145.keep Kq1143 (ninS ne_b738_an_799 nin0))
            have f1154 := (f1146.keep Kq1143 (ninS ne_b738_an_799 nin0))
            have f1155 := (((q_size_1106.keep Kq1120 nin0).keep Kq1128 nin0).keep Kq1143 (ninS ne_b738_an_799 nin0))
            have f1156 := (((q_modCount_1106.keep Kq1120 nin0).keep Kq1128 nin0).keep Kq1143 (ninS ne_b738_an_799 nin0))
            have f1157 := ((f1129.keep Kq1128 all0).keep Kq1143 (allS g_an_799 all0))
            exact J T1143 h1143 _ (.ref an_799) (2 : Int32) (2 : Int32) (X1143.more (by decide) (by decide)) e1143 N1143 Z1143 f1152 f1153 f1154 f1155 f1156 f1157 (fun q => absurd (by decide) q)
          · show Go _ _ _ _ _ _ _ T1128 (mkF m 73 #[.val (.int inn), .val (.int k1), .val (.int k2), .val (.int k3), .val (.int iv), .val (.int iw), .val (.int cn), .val (.ref b738), .unset, .unset] [(.ref ax_1128), (.ref ax_1120), (.ref b738)])
            have f1158 := ((d_left_1106.keep Kq1120 nin0).keep Kq1128 nin0)
            have f1159 := ((d_right_1106.keep Kq1120 nin0).keep Kq1128 nin0)
            have f1160 := (f1131.keep Kq1128)
            have f1161 := ((d_key_1106.keep Kq1120 nin0).keep Kq1128 nin0)
            have f1162 := (f1132.keep Kq1128)
            have f1163 := (((f1105.keep Kq1106 (ninS nx1104 (ninS ne_ax_793_an_799 nin0))).keep Kq1120 nin0).keep Kq1128 nin0)
            have f1165 := (f1136.keep Kq1128)
            have f1166 := ((q_comparator_1106.keep Kq1120 nin0).keep Kq1128 nin0)
            have f1167 := ((q_root_1106.keep Kq1120 nin0).keep Kq1128 nin0)
            have f1168 := ((q_size_1106.keep Kq1120 nin0).keep Kq1128 nin0)
            have f1169 := ((q_modCount_1106.keep Kq1120 nin0).keep Kq1128 nin0)
            have f1170 := (E1_1120.keep Kq1128)
            have f1171 := (F1_1120.keep Kq1128 nin0)
            have f1172 := ((d_value_1106.keep Kq1120 nin0).keep Kq1128 nin0)
            have f1173 := ((d_parent_1106.keep Kq1120 nin0).keep Kq1128 nin0)
            have f1174 := ((d_red_1106.keep Kq1120 nin0).keep Kq1128 nin0)
            obtain ⟨cq1164, kq1164, q1164a, q1164b, q1164c⟩ := isOf hZ e1128 f1165
            obtain ⟨_, _, ⟨T1164, L1164, k1164, n1164⟩, -, X1164, ⟨Lc1164, hQ1164, l1164, y1164, z1164⟩, st1164⟩ := X1128.virtualBack hx (y := (⟨"gatherwick/maps/GwTreeMap", "put", "(Ljava/lang/Object;Ljava/lang/Object;)Ljava/lang/Object;"⟩ : MethodName)) (z := (⟨"gatherwick/maps/GwTreeMap", "put", "(Ljava/lang/Object;Ljava/lang/Object;)Ljava/lang/Object;"⟩ : MethodName)) hown (mvT hZ (own_w hw 84 rfl)) (mvT hZ (own_w hw 85 rfl)) (notFace_of_selects (args := #[]) (mvT hZ (own_w hw 87 rfl))) (mvT hZ (own_w hw 87 rfl)) (mvT hZ (own_w hw 86 rfl)) (by decide) (backOf (W := 0) (rmUOl l Z a0 hw [] b738 ax_1120 ax_1128 k3 (2 : Int32) (2 : Int32) an_799 ax_793 ax_796 (.ref an_1106) k1 [] h1128 n0 Z1128 f1165 g_b738 f1166 f1167 f1168 f1169 f1170 f1171 ⟨f1160, f1161, f1162, f1163, (fun _ => f1158), (fun z => absurd z (own_gtnl q3)), trivial⟩ ((own_sn_lt q3)) ((own_sp_lt q3)) ((own_sl_lt q3)) (by decide) f1160 g_an_799 f1161 f1172 f1158 f1159 f1173 f1174) hZ (own_w hw 88 rfl) (own_w hw 2 rfl) (by decide) (by decide)) q1164a q1164c (g := (mkF m 73 #[.val (.int inn), .val (.int k1), .val (.int k2), .val (.int k3), .val (.int iv), .val (.int iw), .val (.int cn), .val (.ref b738), .unset, .unset] [(.ref ax_1128), (.ref ax_1120), (.ref b738)])) rfl (by rw [hml]; rfl) (Steps.refl _) (argsL := [(.ref ax_1120), (.ref ax_1128)]) (rest := []) (lenOf pd__Ljava_lang_Object_Ljava_lang_Object__Ljava_lang_Object_ rfl) rfl (by show 2 * 0 + _ ≤ _; exact Nat.le_of_eq rfl) (hb hby at_73) (fun _ _ => ⟨rfl, e1128, (by decide : 11 + 2 ≤ _), (by decide : 29 + 9 ≤ _)⟩)
            dsimp only [Pt.U, Pt.locs, Pt.cells, Pt.slots] at X1164 l1164 y1164 z1164 st1164 hQ1164
            subst l1164 y1164 z1164
            obtain ⟨h1164, e1164⟩ : ∃ h, T1164.heap = h := ⟨_, rfl⟩
            rw [e1164] at hQ1164
            have f1175 := (f1130.keep Kq1128)
            have f1176 := (f1133.keep Kq1128)
            have f1177 := (f1134.keep Kq1128)
            have f1178 := (f1135.keep Kq1128)
            obtain ⟨an_1164, rfl, Nq1164, Kq1164, szn_1164, E_n_1164, b_key_1164, b_value_1164, b_left_1164, b_right_1164, b_parent_1164, b_red_1164, d_key_1164, d_value_1164, d_left_1164, d_right_1164, d_parent_1164, d_red_1164, q_comparator_1164, q_root_1164, q_size_1164, q_modCount_1164⟩ := hQ1164
            have N1164 := Fr.app N1128 Nq1164
            have Z1164 : n0 ≤ h1164.size := Nat.le_trans Z1128 Kq1164.1
            have g_an_1164 : n0 ≤ an_1164 := Nat.le_trans Z1128 szn_1164
            have ne_an_1106_an_1164 : an_1106 ≠ an_1164 := Nat.ne_of_lt (Nat.lt_of_lt_of_le f1175.lt szn_1164)
            have ne_an_799_an_1164 : an_799 ≠ an_1164 := Nat.ne_of_lt (Nat.lt_of_lt_of_le f1160.lt szn_1164)
            have ne_ax_1120_an_1164 : ax_1120 ≠ an_1164 := Nat.ne_of_lt (Nat.lt_of_lt_of_le f1170.lt szn_1164)
            have ne_ax_1128_an_1164 : ax_1128 ≠ an_1164 := Nat.ne_of_lt (Nat.lt_of_lt_of_le E1_1128.lt szn_1164)
            have ne_ax_793_an_1164 : ax_793 ≠ an_1164 := Nat.ne_of_lt (Nat.lt_of_lt_of_le f1162.lt szn_1164)
            have ne_ax_796_an_1164 : ax_796 ≠ an_1164 := Nat.ne_of_lt (Nat.lt_of_lt_of_le f1176.lt szn_1164)
            have ne_ax_811_an_1164 : ax_811 ≠ an_1164 := Nat.ne_of_lt (Nat.lt_of_lt_of_le f1177.lt szn_1164)
            have ne_ax_816_an_1164 : ax_816 ≠ an_1164 := Nat.ne_of_lt (Nat.lt_of_lt_of_le f1178.lt szn_1164)
            have ne_b738_an_1164 : b738 ≠ an_1164 := Nat.ne_of_lt (Nat.lt_of_lt_of_le f1165.lt szn_1164)
            have q_size_1164 : Fld Z h1164 b738 "gatherwick/maps/GwTreeMap" "size" "I" (.int (3 : Int32)) := q_size_1164
            have q_modCount_1164 : Fld Z h1164 b738 "gatherwick/maps/GwTreeMap" "modCount" "I" (.int (3 : Int32)) := q_modCount_1164
            refine Go.trans st1164 ?_
            show Go _ _ _ _ _ _ _ T1164 (mkF m 76 #[.val (.int inn), .val (.int k1), .val (.int k2), .val (.int k3), .val (.int iv), .val (.int iw), .val (.int cn), .val (.ref b738), .unset, .unset] [.null])
            refine Go.step (fun _ k => XS.pop X1164.here hx rfl (hb hby at_76) rfl rfl k) ?_
            show Go _ _ _ _ _ _ _ T1164 (mkF m 77 #[.val (.int inn), .val (.int k1), .val (.int k2), .val (.int k3), .val (.int iv), .val (.int iw), .val (.int cn), .val (.ref b738), .unset, .unset] [])
            have f1179 := (f1165.keep Kq1164)
            have f1180 := ((f1129.keep Kq1128 all0).keep Kq1164 (allS g_b738 (allS g_an_799 all0)))
            exact J T1164 h1164 _ (.ref an_799) (3 : Int32) (3 : Int32) (X1164.more (by decide) (by decide)) e1164 N1164 Z1164 f1179 q_comparator_1164 q_root_1164 q_size_1164 q_modCount_1164 f1180 (fun q => absurd (by decide) q)
          · show Go _ _ _ _ _ _ _ T1128 (mkF m 73 #[.val (.int inn), .val (.int k1), .val (.int k2), .val (.int k3), .val (.int iv), .val (.int iw), .val (.int cn), .val (.ref b738), .unset, .unset] [(.ref ax_1128), (.ref ax_1120), (.ref b738)])
            rcases own_tri k3 k2 with q4 | q4 | q4
            · show Go _ _ _ _ _ _ _ T1128 (mkF m 73 #[.val (.int inn), .val (.int k1), .val (.int k2), .val (.int k3), .val (.int iv), .val (.int iw), .val (.int cn), .val (.ref b738), .unset, .unset] [(.ref ax_1128), (.ref ax_1120), (.ref b738)])
              have f1181 := ((d_left_1106.keep Kq1120 nin0).keep Kq1128 nin0)
              have f1182 := ((d_right_1106.keep Kq1120 nin0).keep Kq1128 nin0)
              have f1183 := (f1131.keep Kq1128)
              have f1184 := ((d_key_1106.keep Kq1120 nin0).keep Kq1128 nin0)
              have f1185 := (f1132.keep Kq1128)
              have f1186 := (((f1105.keep Kq1106 (ninS nx1104 (ninS ne_ax_793_an_799 nin0))).keep Kq1120 nin0).keep Kq1128 nin0)
              have f1187 := ((b_left_1106.keep Kq1120 nin0).keep Kq1128 nin0)
              have f1188 := ((b_right_1106.keep Kq1120 nin0).keep Kq1128 nin0)
              have f1189 := (f1130.keep Kq1128)
              have f1190 := ((b_key_1106.keep Kq1120 nin0).keep Kq1128 nin0)
              have f1191 := (f1134.keep Kq1128)
              have f1192 := (f1136.keep Kq1128)
              have nx1193 : ax_811 ≠ b738 := Exa.ne f1191 f1192 (by decide)
              have nx1194 : ax_811 ≠ an_799 := Exa.ne f1191 f1183 (by decide)
              have f1195 := (((f1112.keep Kq1106 (ninS nx1193 (ninS nx1194 nin0))).keep Kq1120 nin0).keep Kq1128 nin0)
              have f1197 := ((q_comparator_1106.keep Kq1120 nin0).keep Kq1128 nin0)
              have f1198 := ((q_root_1106.keep Kq1120 nin0).keep Kq1128 nin0)
              have f1199 := (E1_1120.keep Kq1128)
              have f1200 := (F1_1120.keep Kq1128 nin0)
              have f1201 := ((b_value_1106.keep Kq1120 nin0).keep Kq1128 nin0)
              have f1202 := ((b_parent_1106.keep Kq1120 nin0).keep Kq1128 nin0)
              have f1203 := ((b_red_1106.keep Kq1120 nin0).keep Kq1128 nin0)
              obtain ⟨cq1196, kq1196, q1196a, q1196b, q1196c⟩ := isOf hZ e1128 f1192
              obtain ⟨_, _, ⟨T1196, L1196, k1196, n1196⟩, -, X1196, ⟨Lc1196, hQ1196, l1196, y1196, z1196⟩, st1196⟩ := X1128.virtualBack hx (y := (⟨"gatherwick/maps/GwTreeMap", "put", "(Ljava/lang/Object;Ljava/lang/Object;)Ljava/lang/Object;"⟩ : MethodName)) (z := (⟨"gatherwick/maps/GwTreeMap", "put", "(Ljava/lang/Object;Ljava/lang/Object;)Ljava/lang/Object;"⟩ : MethodName)) hown (mvT hZ (own_w hw 84 rfl)) (mvT hZ (own_w hw 85 rfl)) (notFace_of_selects (args := #[]) (mvT hZ (own_w hw 87 rfl))) (mvT hZ (own_w hw 87 rfl)) (mvT hZ (own_w hw 86 rfl)) (by decide) (backOf (W := 0) (rmUE l Z a0 hw [] b738 ax_1120 ax_1128 k3 [(an_799, ax_793, k1), (an_1106, ax_811, k2)] an_1106 ax_811 ax_816 .null .null (.ref an_799) (1 : Int32) h1128 n0 Z1128 f1192 f1197 f1198 f1199 f1200 ⟨f1183, f1184, f1185, f1186, (fun z => absurd z (own_gtnl q3)), (fun _ => f1182), ⟨f1189, f1190, f1191, f1195, (fun z => absurd q4 (own_ltne z)), (fun z => absurd q4 (own_gtne z)), trivial⟩⟩ ((own_sn_gt q3).trans (own_sn_eq q4)) f1189 g_an_1106 f1190 f1201 f1187 f1188 f1202 f1203) hZ (own_w hw 88 rfl) (own_w hw 2 rfl) (by decide) (by decide)) q1196a q1196c (g := (mkF m 73 #[.val (.int inn), .val (.int k1), .val (.int k2), .val (.int k3), .val (.int iv), .val (.int iw), .val (.int cn), .val (.ref b738), .unset, .unset] [(.ref ax_1128), (.ref ax_1120), (.ref b738)])) rfl (by rw [hml]; rfl) (Steps.refl _) (argsL := [(.ref ax_1120), (.ref ax_1128)]) (rest := []) (lenOf pd__Ljava_lang_Object_Ljava_lang_Object__Ljava_lang_Object_ rfl) rfl (by show 2 * 0 + _ ≤ _; exact Nat.le_of_eq rfl) (hb hby at_73) (fun _ _ => ⟨rfl, e1128, (by decide : 11 + 1 ≤ _), (by decide : 29 + 3 ≤ _)⟩)
              dsimp only [Pt.U, Pt.locs, Pt.cells, Pt.slots] at X1196 l1196 y1196 z1196 st1196 hQ1196
              subst l1196 y1196 z1196
              obtain ⟨h1196, e1196⟩ : ∃ h, T1196.heap = h := ⟨_, rfl⟩
              rw [e1196] at hQ1196
              obtain ⟨rfl, Nq1196, Kq1196, b_key_1196, b_value_1196, b_left_1196, b_right_1196, b_parent_1196, b_red_1196⟩ := hQ1196
              have N1196 := Fr.app N1128 Nq1196
              have Z1196 : n0 ≤ h1196.size := Nat.le_trans Z1128 Kq1196.1
              have b_red_1196 : Fld Z h1196 an_1106 "gatherwick/maps/RedBlackTree$Node" "red" "Z" (.int (1 : Int32)) := b_red_1196
              refine Go.trans st1196 ?_
              show Go _ _ _ _ _ _ _ T1196 (mkF m 76 #[.val (.int inn), .val (.int k1), .val (.int k2), .val (.int k3), .val (.int iv), .val (.int iw), .val (.int cn), .val (.ref b738), .unset, .unset] [(.ref ax_816)])
              refine Go.step (fun _ k => XS.pop X1196.here hx rfl (hb hby at_76) rfl rfl k) ?_
              show Go _ _ _ _ _ _ _ T1196 (mkF m 77 #[.val (.int inn), .val (.int k1), .val (.int k2), .val (.int k3), .val (.int iv), .val (.int iw), .val (.int cn), .val (.ref b738), .unset, .unset] [])
              have f1204 := (f1192.keep Kq1196)
              have f1205 := (f1197.keep Kq1196 (ninS ne_b738_an_1106 nin0))
              have f1206 := (f1198.keep Kq1196 (ninS ne_b738_an_1106 nin0))
              have f1207 := (((q_size_1106.keep Kq1120 nin0).keep Kq1128 nin0).keep Kq1196 (ninS ne_b738_an_1106 nin0))
              have f1208 := (((q_modCount_1106.keep Kq1120 nin0).keep Kq1128 nin0).keep Kq1196 (ninS ne_b738_an_1106 nin0))
              have f1209 := ((f1129.keep Kq1128 all0).keep Kq1196 (allS g_an_1106 all0))
              exact J T1196 h1196 _ (.ref an_799) (2 : Int32) (2 : Int32) (X1196.more (by decide) (by decide)) e1196 N1196 Z1196 f1204 f1205 f1206 f1207 f1208 f1209 (fun q => absurd (by decide) q)
            · show Go _ _ _ _ _ _ _ T1128 (mkF m 73 #[.val (.int inn), .val (.int k1), .val (.int k2), .val (.int k3), .val (.int iv), .val (.int iw), .val (.int cn), .val (.ref b738), .unset, .unset] [(.ref ax_1128), (.ref ax_1120), (.ref b738)])
              have f1210 := ((d_left_1106.keep Kq1120 nin0).keep Kq1128 nin0)
              have f1211 := ((d_right_1106.keep Kq1120 nin0).keep Kq1128 nin0)
              have f1212 := (f1131.keep Kq1128)
              have f1213 := ((d_key_1106.keep Kq1120 nin0).keep Kq1128 nin0)
              have f1214 := (f1132.keep Kq1128)
              have f1215 := (((f1105.keep Kq1106 (ninS nx1104 (ninS ne_ax_793_an_799 nin0))).keep Kq1120 nin0).keep Kq1128 nin0)
              have f1216 := ((b_left_1106.keep Kq1120 nin0).keep Kq1128 nin0)
              have f1217 := ((b_right_1106.keep Kq1120 nin0).keep Kq1128 nin0)
              have f1218 := (f1130.keep Kq1128)
              have f1219 := ((b_key_1106.keep Kq1120 nin0).keep Kq1128 nin0)
              have f1220 := (f1134.keep Kq1128)
              have f1221 := (f1136.keep Kq1128)
              have nx1222 : ax_811 ≠ b738 := Exa.ne f1220 f1221 (by decide)
              have nx1223 : ax_811 ≠ an_799 := Exa.ne f1220 f1212 (by decide)
              have f1224 := (((f1112.keep Kq1106 (ninS nx1222 (ninS nx1223 nin0))).keep Kq1120 nin0).keep Kq1128 nin0)
              have f1225 := ((d_parent_1106.keep Kq1120 nin0).keep Kq1128 nin0)
              have f1226 := ((d_red_1106.keep Kq1120 nin0).keep Kq1128 nin0)
              have f1227 := ((b_parent_1106.keep Kq1120 nin0).keep Kq1128 nin0)
              have f1228 := ((b_red_1106.keep Kq1120 nin0).keep Kq1128 nin0)
              have f1230 := ((q_comparator_1106.keep Kq1120 nin0).keep Kq1128 nin0)
              have f1231 := ((q_root_1106.keep Kq1120 nin0).keep Kq1128 nin0)
              have f1232 := ((q_size_1106.keep Kq1120 nin0).keep Kq1128 nin0)
              have f1233 := ((q_modCount_1106.keep Kq1120 nin0).keep Kq1128 nin0)
              have f1234 := (E1_1120.keep Kq1128)
              have f1235 := (F1_1120.keep Kq1128 nin0)
              obtain ⟨cq1229, kq1229, q1229a, q1229b, q1229c⟩ := isOf hZ e1128 f1221
              obtain ⟨_, _, ⟨T1229, L1229, k1229, n1229⟩, -, X1229, ⟨Lc1229, hQ1229, l1229, y1229, z1229⟩, st1229⟩ := X1128.virtualBack hx (y := (⟨"gatherwick/maps/GwTreeMap", "put", "(Ljava/lang/Object;Ljava/lang/Object;)Ljava/lang/Object;"⟩ : MethodName)) (z := (⟨"gatherwick/maps/GwTreeMap", "put", "(Ljava/lang/Object;Ljava/lang/Object;)Ljava/lang/Object;"⟩ : MethodName)) hown (mvT hZ (own_w hw 84 rfl)) (mvT hZ (own_w hw 85 rfl)) (notFace_of_selects (args := #[]) (mvT hZ (own_w hw 87 rfl))) (mvT hZ (own_w hw 87 rfl)) (mvT hZ (own_w hw 86 rfl)) (by decide) (backOf (W := 0) (rmUW l Z a0 hw [] b738 ax_1120 ax_1128 k3 (2 : Int32) (2 : Int32) an_799 an_1106 ax_793 (1 : Int32) false k1 [(an_1106, ax_811, k2)] h1128 n0 Z1128 f1221 g_b738 f1230 f1231 f1232 f1233 f1234 f1235 ⟨f1212, f1213, f1214, f1215, (fun z => absurd z (own_gtnl q3)), (fun _ => f1211), ⟨f1218, f1219, f1220, f1224, (fun _ => f1216), (fun z => absurd z (own_gtnl q4)), trivial⟩⟩ ((own_sn_gt q3).trans (own_sn_lt q4)) ((own_sp_gt q3).trans (own_sp_lt q4)) ((own_sl_gt q3).trans (own_sl_lt q4)) (by decide) f1212 g_an_799 f1218 g_an_1106 ne_an_799_an_1106 ⟨f1210, f1211, f1225, f1226, f1216, f1217, f1227, f1228⟩ (Or.inr rfl)) hZ (own_w hw 88 rfl) (own_w hw 2 rfl) (by decide) (by decide)) q1229a q1229c (g := (mkF m 73 #[.val (.int inn), .val (.int k1), .val (.int k2), .val (.int k3), .val (.int iv), .val (.int iw), .val (.int cn), .val (.ref b738), .unset, .unset] [(.ref ax_1128), (.ref ax_1120), (.ref b738)])) rfl (by rw [hml]; rfl) (Steps.refl _) (argsL := [(.ref ax_1120), (.ref ax_1128)]) (rest := []) (lenOf pd__Ljava_lang_Object_Ljava_lang_Object__Ljava_lang_Object_ rfl) rfl (by show 2 * 0 + _ ≤ _; exact Nat.le_of_eq rfl) (hb hby at_73) (fun _ _ => ⟨rfl, e1128, (by decide : 11 + 2 ≤ _), (by decide : 29 + 9 ≤ _)⟩)
              dsimp only [Pt.U, Pt.locs, Pt.cells, Pt.slots] at X1229 l1229 y1229 z1229 st1229 hQ1229
              subst l1229 y1229 z1229
              obtain ⟨h1229, e1229⟩ : ∃ h, T1229.heap = h := ⟨_, rfl⟩
              rw [e1229] at hQ1229
              have f1236 := (f1133.keep Kq1128)
              have f1237 := (f1135.keep Kq1128)
              obtain ⟨nr_1229, rfl, Nq1229, Kq1229, q_comparator_1229, q_root_1229, q_size_1229, q_modCount_1229⟩ := hQ1229
              have N1229 := Fr.app N1128 Nq1229
              have Z1229 : n0 ≤ h1229.size := Nat.le_trans Z1128 Kq1229.1
              have q_size_1229 : Fld Z h1229 b738 "gatherwick/maps/GwTreeMap" "size" "I" (.int (3 : Int32)) := q_size_1229
              have q_modCount_1229 : Fld Z h1229 b738 "gatherwick/maps/GwTreeMap" "modCount" "I" (.int (3 : Int32)) := q_modCount_1229
              refine Go.trans st1229 ?_
              show Go _ _ _ _ _ _ _ T1229 (mkF m 76 #[.val (.int inn), .val (.int k1), .val (.int k2), .val (.int k3), .val (.int iv), .val (.int iw), .val (.int cn), .val (.ref b738), .unset, .unset] [.null])
              refine Go.step (fun _ k => XS.pop X1229.here hx rfl (hb hby at_76) rfl rfl k) ?_
              show Go _ _ _ _ _ _ _ T1229 (mkF m 77 #[.val (.int inn), .val (.int k1), .val (.int k2), .val (.int k3), .val (.int iv), .val (.int iw), .val (.int cn), .val (.ref b738), .unset, .unset] [])
              have f1238 := (f1221.keep Kq1229)
              have f1239 := ((f1129.keep Kq1128 all0).keep Kq1229 (allS g_b738 (allS g_an_799 (allS g_an_1106 all0))))
              exact J T1229 h1229 _ (.ref nr_1229) (3 : Int32) (3 : Int32) (X1229.more (by decide) (by decide)) e1229 N1229 Z1229 f1238 q_comparator_1229 q_root_1229 q_size_1229 q_modCount_1229 f1239 (fun q => absurd (by decide) q)
            · show Go _ _ _ _ _ _ _ T1128 (mkF m 73 #[.val (.int inn), .val (.int k1), .val (.int k2), .val (.int k3), .val (.int iv), .val (.int iw), .val (.int cn), .val (.ref b738), .unset, .unset] [(.ref ax_1128), (.ref ax_1120), (.ref b738)])
              have f1240 := ((d_left_1106.keep Kq1120 nin0).keep Kq1128 nin0)
              have f1241 := ((d_right_1106.keep Kq1120 nin0).keep Kq1128 nin0)
              have f1242 := (f1131.keep Kq1128)
              have f1243 := ((d_key_1106.keep Kq1120 nin0).keep Kq1128 nin0)
              have f1244 := (f1132.keep Kq1128)
              have f1245 := (((f1105.keep Kq1106 (ninS nx1104 (ninS ne_ax_793_an_799 nin0))).keep Kq1120 nin0).keep Kq1128 nin0)
              have f1246 := ((b_left_1106.keep Kq1120 nin0).keep Kq1128 nin0)
              have f1247 := ((b_right_1106.keep Kq1120 nin0).keep Kq1128 nin0)
              have f1248 := (f1130.keep Kq1128)
              have f1249 := ((b_key_1106.keep Kq1120 nin0).keep Kq1128 nin0)
              have f1250 := (f1134.keep Kq1128)
              have f1251 := (f1136.keep Kq1128)
              have nx1252 : ax_811 ≠ b738 := Exa.ne f1250 f1251 (by decide)
              have nx1253 : ax_811 ≠ an_799 := Exa.ne f1250 f1242 (by decide)
              have f1254 := (((f1112.keep Kq1106 (ninS nx1252 (ninS nx1253 nin0))).keep Kq1120 nin0).keep Kq1128 nin0)
              have f1255 := ((d_parent_1106.keep Kq1120 nin0).keep Kq1128 nin0)
              have f1256 := ((d_red_1106.keep Kq1120 nin0).keep Kq1128 nin0)
              have f1257 := ((b_parent_1106.keep Kq1120 nin0).keep Kq1128 nin0)
              have f1258 := ((b_red_1106.keep Kq1120 nin0).keep Kq1128 nin0)
              have f1260 := ((q_comparator_1106.keep Kq1120 nin0).keep Kq1128 nin0)
              have f1261 := ((q_root_1106.keep Kq1120 nin0).keep Kq1128 nin0)
              have f1262 := ((q_size_1106.keep Kq1120 nin0).keep Kq1128 nin0)
              have f1263 := ((q_modCount_1106.keep Kq1120 nin0).keep Kq1128 nin0)
              have f1264 := (E1_1120.keep Kq1128)
              have f1265 := (F1_1120.keep Kq1128 nin0)
              obtain ⟨cq1259, kq1259, q1259a, q1259b, q1259c⟩ := isOf hZ e1128 f1251
              obtain ⟨_, _, ⟨T1259, L1259, k1259, n1259⟩, -, X1259, ⟨Lc1259, hQ1259, l1259, y1259, z1259⟩, st1259⟩ := X1128.virtualBack hx (y := (⟨"gatherwick/maps/GwTreeMap", "put", "(Ljava/lang/Object;Ljava/lang/Object;)Ljava/lang/Object;"⟩ : MethodName)) (z := (⟨"gatherwick/maps/GwTreeMap", "put", "(Ljava/lang/Object;Ljava/lang/Object;)Ljava/lang/Object;"⟩ : MethodName)) hown (mvT hZ (own_w hw 84 rfl)) (mvT hZ (own_w hw 85 rfl)) (notFace_of_selects (args := #[]) (mvT hZ (own_w hw 87 rfl))) (mvT hZ (own_w hw 87 rfl)) (mvT hZ (own_w hw 86 rfl)) (by decide) (backOf (W := 0) (rmUW l Z a0 hw [] b738 ax_1120 ax_1128 k3 (2 : Int32) (2 : Int32) an_799 an_1106 ax_793 (0 : Int32) false k1 [(an_1106, ax_811, k2)] h1128 n0 Z1128 f1251 g_b738 f1260 f1261 f1262 f1263 f1264 f1265 ⟨f1242, f1243, f1244, f1245, (fun z => absurd z (own_gtnl q3)), (fun _ => f1241), ⟨f1248, f1249, f1250, f1254, (fun z => absurd z (own_gtnl q4)), (fun _ => f1247), trivial⟩⟩ ((own_sn_gt q3).trans (own_sn_gt q4)) ((own_sp_gt q3).trans (own_sp_gt q4)) ((own_sl_gt q3).trans (own_sl_gt q4)) (by decide) f1242 g_an_799 f1248 g_an_1106 ne_an_799_an_1106 ⟨f1240, f1241, f1255, f1256, f1246, f1247, f1257, f1258⟩ (Or.inl rfl)) hZ (own_w hw 88 rfl) (own_w hw 2 rfl) (by decide) (by decide)) q1259a q1259c (g := (mkF m 73 #[.val (.int inn), .val (.int k1), .val (.int k2), .val (.int k3), .val (.int iv), .val (.int iw), .val (.int cn), .val (.ref b738), .unset, .unset] [(.ref ax_1128), (.ref ax_1120), (.ref b738)])) rfl (by rw [hml]; rfl) (Steps.refl _) (argsL := [(.ref ax_1120), (.ref ax_1128)]) (rest := []) (lenOf pd__Ljava_lang_Object_Ljava_lang_Object__Ljava_lang_Object_ rfl) rfl (by show 2 * 0 + _ ≤ _; exact Nat.le_of_eq rfl) (hb hby at_73) (fun _ _ => ⟨rfl, e1128, (by decide : 11 + 2 ≤ _), (by decide : 29 + 9 ≤ _)⟩)
              dsimp only [Pt.U, Pt.locs, Pt.cells, Pt.slots] at X1259 l1259 y1259 z1259 st1259 hQ1259
              subst l1259 y1259 z1259
              obtain ⟨h1259, e1259⟩ : ∃ h, T1259.heap = h := ⟨_, rfl⟩
              rw [e1259] at hQ1259
              have f1266 := (f1133.keep Kq1128)
              have f1267 := (f1135.keep Kq1128)
              obtain ⟨nr_1259, rfl, Nq1259, Kq1259, q_comparator_1259, q_root_1259, q_size_1259, q_modCount_1259⟩ := hQ1259
              have N1259 := Fr.app N1128 Nq1259
              have Z1259 : n0 ≤ h1259.size := Nat.le_trans Z1128 Kq1259.1
              have q_size_1259 : Fld Z h1259 b738 "gatherwick/maps/GwTreeMap" "size" "I" (.int (3 : Int32)) := q_size_1259
              have q_modCount_1259 : Fld Z h1259 b738 "gatherwick/maps/GwTreeMap" "modCount" "I" (.int (3 : Int32)) := q_modCount_1259
              refine Go.trans st1259 ?_
              show Go _ _ _ _ _ _ _ T1259 (mkF m 76 #[.val (.int inn), .val (.int k1), .val (.int k2), .val (.int k3), .val (.int iv), .val (.int iw), .val (.int cn), .val (.ref b738), .unset, .unset] [.null])
              refine Go.step (fun _ k => XS.pop X1259.here hx rfl (hb hby at_76) rfl rfl k) ?_
              show Go _ _ _ _ _ _ _ T1259 (mkF m 77 #[.val (.int inn), .val (.int k1), .val (.int k2), .val (.int k3), .val (.int iv), .val (.int iw), .val (.int cn), .val (.ref b738), .unset, .unset] [])
              have f1268 := (f1251.keep Kq1259)
              have f1269 := ((f1129.keep Kq1128 all0).keep Kq1259 (allS g_b738 (allS g_an_799 (allS g_an_1106 all0))))
              exact J T1259 h1259 _ (.ref nr_1259) (3 : Int32) (3 : Int32) (X1259.more (by decide) (by decide)) e1259 N1259 Z1259 f1268 q_comparator_1259 q_root_1259 q_size_1259 q_modCount_1259 f1269 (fun q => absurd (by decide) q)
theorem own_len31 {args : Array Value} {s : State} {t : Term} {a : Addr} {c : Cell} {v : Value} (ht : t.eval args s none [] s = some (.ref a)) (ha : s.arrayAt? a = some c) (e : (Term.length t).eval args s none [] s = some v) : c.slots.size < 2 ^ 31 := by
  apply Decidable.byContradiction; intro q; simp [Term.eval, ht, ha, q] at e
theorem own_idx {args : Array Value} {s : State} (idx : List Nat) : (Term.static "java/lang/Integer$IntegerCache" "cache" "[Ljava/lang/Integer;").eval args s none idx s = (Term.static "java/lang/Integer$IntegerCache" "cache" "[Ljava/lang/Integer;").eval args s none [] s := by simp [Term.eval]
theorem own_ev128 {args : Array Value} {s : State} {j : Int32} (hj : ¬ j < 0) : (Term.sub (.index 0) (.int 128)).eval args s none [j.toNatClampNeg] s = some (.int (j - 128)) := Term.sub_int (idx_at hj) (Term.int_eval _)
theorem comes_1 {Post : Tables → Env → Array Value → State → Outcome → State → Prop} (hpost : ∀ tb e args s v u, (limb_1_1.after args s (.returned v) u = true ∧ limb_1_2.after args s (.returned v) u = true ∧ True) → FrameEnd s (.returned v) u (Jvm.fieldLocs frame_1_writes args s ++ Jvm.arrayLocs frame_1_arrays args s ++ Jvm.staticLocs frame_1_statics s) 48 192 → Post tb e args s (.returned v) u) :
    ArmFor flags0 classFile x code maxLocals ret World_1 tables_1 room_1 Calls_1 rest_1 Pre_1 Post := by
  intro l hfl _ _ p e ha hc hk s m args below hf hA hF happ hP
  obtain ⟨hcalls, hrest, hpre⟩ := hP
  obtain ⟨-, -, -, hnamed, -, -, -, hat⟩ := (Spec.applies_iff hf).mp happ
  obtain ⟨hg, hn⟩ := and_e (Cond.before_iff.mp (show (Jvm.Cond.and given_1 narrow_1).before args s = true from hpre))
  obtain ⟨gg1, gg2⟩ := and_e hg
  obtain ⟨gg3, gg4⟩ := and_e gg2
  obtain ⟨gg5, gg6⟩ := and_e gg4
  obtain ⟨gg7, gg8⟩ := and_e gg6
  obtain ⟨gg9, gg10⟩ := and_e gg8
  obtain ⟨gg11, gg12⟩ := and_e gg10
  obtain ⟨w0, w1, w2, w3, w4, w5, rfl⟩ : ∃ w0 w1 w2 w3 w4 w5 : Value, args = #[w0, w1, w2, w3, w4, w5] := by
    have hs : args.size = 6 := by simpa [Cond.value, given_1] using gg1
    obtain ⟨L⟩ := args
    match L, hs with
    | [w0, w1, w2, w3, w4, w5], _ => exact ⟨w0, w1, w2, w3, w4, w5, rfl⟩
  have hw := fun d (hd : d ∈ tables_1) => atoms_spec (ws := Jvm.Cond.code x code maxLocals ret :: tables_1) hat d (List.mem_cons_of_mem _ hd)
  have hfit : Fit s := fun {y c} hc i hi => by
    obtain ⟨ha, rfl⟩ := Array.getElem?_eq_some_iff.mp hc
    have q := List.all_eq_true.mp ((Array.all_eq_true_iff_forall_mem.mp hF) _ (Array.getElem_mem ha)) i (List.mem_range.mpr hi)
    simpa [Array.getElem?_eq_getElem hi] using q
  obtain ⟨hsets, hown0⟩ := atoms_of _ (rest_1_c_eq ▸ (show rest_1_c.before _ s = true from hrest))
  have hr0 := Cond.before_iff.mp hown0
  obtain ⟨inn, ei0⟩ := is_v gg3
  obtain rfl : w0 = (.int inn) := Option.some.inj ei0
  obtain ⟨k1, ei1⟩ := is_v gg5
  obtain rfl : w1 = (.int k1) := Option.some.inj ei1
  obtain ⟨k2, ei2⟩ := is_v gg7
  obtain rfl : w2 = (.int k2) := Option.some.inj ei2
  obtain ⟨k3, ei3⟩ := is_v gg9
  obtain rfl : w3 = (.int k3) := Option.some.inj ei3
  obtain ⟨iv, ei4⟩ := is_v gg11
  obtain rfl : w4 = (.int iv) := Option.some.inj ei4
  obtain ⟨iw, ei5⟩ := is_v gg12
  obtain rfl : w5 = (.int iw) := Option.some.inj ei5
  have SH := Sta.start (eqv_i (Term.int_eval _) (Cond.before_iff.mp (hsets _ (List.mem_of_getElem? (i := 3) rfl)))) (Or.inl (hsets _ (List.mem_of_getElem? (i := 1) rfl)))
  obtain ⟨ac, eac⟩ := exa_v (Cond.before_iff.mp (hsets _ (List.mem_of_getElem? (i := 5) rfl)))
  have SC := Sta.start eac (Or.inr ⟨(own_w hw 33 rfl), (hsets _ (List.mem_of_getElem? (i := 2) rfl))⟩)
  obtain ⟨cc, Acc⟩ := Arr.start eac (Cond.before_iff.mp (hsets _ (List.mem_of_getElem? (i := 4) rfl)))
  have eln := eqv_i (Term.int_eval _) (Cond.before_iff.mp (hsets _ (List.mem_of_getElem? (i := 6) rfl)))
  have qsz : cc.slots.size < 2 ^ 31 := own_len31 eac (Acc.fin (Vm.Alike.refl _)) eln
  have e256 : cc.slots.size.toInt32 = 256 := Value.int.inj (Option.some.inj ((len_f eac (Acc.fin (Vm.Alike.refl _)) qsz).symm.trans eln))
  have BX := Bxs.start (fun idx => (own_idx idx).trans eac) Acc qsz e256 (by decide) (Cond.before_iff.mp (hsets _ (List.mem_of_getElem? (i := 7) rfl))) (val := fun j => .int (j - 128)) (fun X j hj q => eqv_i (own_ev128 hj) q)
  obtain ⟨n, o, h1, h2, h3, _, L, rfl, ⟨rfl, N, -⟩, hq⟩ := rm0 l s _ hw tables_1 inn k1 k2 k3 iv iw ac cc s.heap s.heap.size (Nat.le_refl _) (Old.start s) SH SC BX p e ha hc hk s m _ below hf ((Spec.applies_iff_loose hf).mp happ).1 ⟨rfl, State.Warmed39.refl s, rfl⟩ trivial
  refine ⟨n, _, h1, h2, h3, hpost _ _ _ _ _ _ ⟨Cond.after_iff.mpr rfl, Cond.after_iff.mpr (eq_i res_at (Term.int_eval (1)) rfl), trivial⟩ ⟨hq.1, hq.2.1, (hq.2.2.sift fun y hy => Or.inr (N y hy)).mono (by decide) (by decide)⟩⟩
theorem main_1_1 : Claimed_1_1 := comes_1 fun _ _ _ _ _ _ h hF => ⟨h.1, hF⟩
theorem main_1_2 : Claimed_1_2 := comes_1 fun _ _ _ _ _ _ h hF => ⟨h.2.1, hF⟩
end Jvm.Pilot.@@N@@
namespace Jvm.Pilot.@@N@@
open Jvm Jvm.ClassFile Sem Op Lib Jvm.Free Jvm.Stand Jvm.Pilot.@@N@@.Jvm.D
/-! MADE BY PROGRAM (witnessworld.py) out of the Statement's table words and the real class files: 27 classes; the members and pool entries that the words name. The judged class is class 1, her method 1. -/
namespace start1
open Jvm.ClassFile
def u (s : String) : CpInfo := .utf8 (stringToUtf16 s)
/-- a pool by its gaps: so many unusable entries, then the entry; so many at the end -/
def gap : Nat → List CpInfo → List CpInfo
  | 0, r => r
  | n + 1, r => .unusable :: gap n r
def poolList (es : List (Nat × CpInfo)) (last : Nat) : List CpInfo := es.foldr (fun e r => gap e.1 (e.2 :: r)) (gap last [])
def pool (es : List (Nat × CpInfo)) (last : Nat) : Array CpInfo := ⟨poolList es last⟩
def fileOf (pool : Array CpInfo) (this : Nat) (attrs : Array Attribute := #[]) (ms : Array MethodInfo := #[]) (fl : Nat := 33) (sup : Nat := 0) (ifs : Array Nat := #[]) (fds : Array FieldInfo := #[]) : ClassFile where
  minorVersion := 0
  majorVersion := 65
  constantPool := pool
  accessFlags := fl
  thisClass := this
  superClass := sup
  interfaces := ifs
  fields := fds
  methods := ms
  attributes := attrs
def plain (name : String) (sup : Option ClassId) : Class where
  name := name
  kind := .ordinary
  loader := none
  accessFlags := 33
  super := sup
  interfaces := #[]
  cf := none
  fields := #[]
  methods := #[]
  instanceTypes := #[]
  staticTypes := #[]
  resolved := #[]
  callSites := []
  init := .initialized
  statics := none
  mirror := none

def pool0 : Array CpInfo := pool [(5, u "<init>"), (0, u "()V"), (1, .class_ 10), (1, u "java/lang/Object")] 113

def k0c0 : Code := { maxStack := 0, maxLocals := 1, code := object_method_1_code, exceptionTable := #[], attributes := #[] }
def k0m0 : Method := { name := "<init>", desc := "()V", sig := { parameters := [], returnType := none }, accessFlags := 1, code := some k0c0 }
/-- java/lang/Object -/
def k0 : Class := { plain "java/lang/Object" none with
  accessFlags := 33
  interfaces := #[]
  cf := some (fileOf pool0 8 #[] #[{ accessFlags := 1, nameIndex := 5, descriptorIndex := 6, attributes := #[] }] 33 0 #[] #[])
  fields := #[]
  methods := #[k0m0]
  instanceTypes := #[]
  staticTypes := #[]
  resolved := Array.replicate 124 none
  statics := none }

def pool1 : Array CpInfo := pool [(2, .class_ 4), (0, .nameAndType 5 6), (0, u "java/lang/Object"), (0, u "<init>"), (0, u "()V"), (0, .class_ 8), (0, u "gatherwick/maps/GwTreeMap"), (0, .methodref 7 3), (0, .methodref 11 12), (0, .class_ 13), (0, .nameAndType 14 15), (0, u "java/lang/Integer"), (0, u "valueOf"), (0, u "(I)Ljava/lang/Integer;"), (0, .methodref 7 17), (0, .nameAndType 18 19), (0, u "put"), (0, u "(Ljava/lang/Object;Ljava/lang/Object;)Ljava/lang/Object;"), (0, .methodref 7 21), (0, .nameAndType 22 6), (0, u "clear"), (0, .methodref 7 24), (0, .nameAndType 25 26), (0, u "size"), (0, u "()I"), (0, .methodref 7 28), (0, .nameAndType 29 30), (0, u "get"), (0, u "(Ljava/lang/Object;)Ljava/lang/Object;"), (0, .methodref 11 32), (0, .nameAndType 33 26), (0, u "intValue"), (0, .class_ 35), (0, u "gatherwick/maps/GwTreeMapClearPinLaw"), (2, u "law"), (0, u "(IIIIII)Z")] 3

def k1m0 : Method := { name := "<init>", desc := "()V", sig := { parameters := [], returnType := none }, accessFlags := 2, code := none }
def k1c1 : Code := { maxStack := 3, maxLocals := 10, code := code, exceptionTable := #[], attributes := #[] }
def k1m1 : Method := { name := "law", desc := "(IIIIII)Z", sig := { parameters := [.int, .int, .int, .int, .int, .int], returnType := some .boolean }, accessFlags := 9, code := some k1c1 }
/-- gatherwick/maps/GwTreeMapClearPinLaw -/
def k1 : Class := { plain "gatherwick/maps/GwTreeMapClearPinLaw" (some 0) with
  accessFlags := 49
  interfaces := #[]
  cf := some (fileOf pool1 34 #[] #[{ accessFlags := 2, nameIndex := 5, descriptorIndex := 6, attributes := #[] }, { accessFlags := 9, nameIndex := 38, descriptorIndex := 39, attributes := #[] }] 49 2 #[] #[])
  fields := #[]
  methods := #[k1m0, k1m1]
  instanceTypes := #[]
  staticTypes := #[]
  resolved := Array.replicate 43 none
  statics := none }

def pool2 : Array CpInfo := pool [(2, .class_ 4), (1, u "java/util/Map"), (31, .class_ 37), (0, u "java/util/Map$Entry"), (55, .class_ 94), (0, u "java/lang/Object")] 168

/-- java/util/Map -/
def k2 : Class := { plain "java/util/Map" (some 0) with
  accessFlags := 1537
  interfaces := #[]
  cf := some (fileOf pool2 2 #[.nestMembers #[36]] #[] 1537 93 #[] #[])
  fields := #[]
  methods := #[]
  instanceTypes := #[]
  staticTypes := #[]
  resolved := Array.replicate 263 none
  statics := none }

def pool3 : Array CpInfo := pool [(1, .methodref 2 3), (0, .class_ 4), (0, .nameAndType 5 6), (0, u "java/lang/Object"), (0, u "<init>"), (0, u "()V"), (1, .class_ 10), (1, u "java/util/Map"), (27, .class_ 40), (1, u "gatherwick/core/BaseMap")] 75

def k3c0 : Code := { maxStack := 1, maxLocals := 1, code := prog_20_method_1_code, exceptionTable := #[], attributes := #[] }
def k3m0 : Method := { name := "<init>", desc := "()V", sig := { parameters := [], returnType := none }, accessFlags := 4, code := some k3c0 }
/-- gatherwick/core/BaseMap -/
def k3 : Class := { plain "gatherwick/core/BaseMap" (some 0) with
  accessFlags := 1057
  interfaces := #[2]
  cf := some (fileOf pool3 38 #[] #[{ accessFlags := 4, nameIndex := 5, descriptorIndex := 6, attributes := #[] }] 1057 2 #[8] #[])
  fields := #[]
  methods := #[k3m0]
  instanceTypes := #[]
  staticTypes := #[]
  resolved := Array.replicate 116 none
  statics := none }

def pool4 : Array CpInfo := pool [(2, .class_ 4), (1, u "java/util/SequencedMap"), (38, .class_ 44), (0, u "java/util/SequencedMap$1SeqKeySet"), (3, .class_ 49), (0, u "java/util/SequencedMap$1SeqValues"), (1, .class_ 52), (0, u "java/util/SequencedMap$1SeqEntrySet"), (1, .class_ 55), (0, u "java/lang/Object"), (0, .class_ 57), (0, u "java/util/Map")] 48

/-- java/util/SequencedMap -/
def k4 : Class := { plain "java/util/SequencedMap" (some 0) with
  accessFlags := 1537
  interfaces := #[2]
  cf := some (fileOf pool4 2 #[.nestMembers #[51, 48, 43]] #[] 1537 54 #[56] #[])
  fields := #[]
  methods := #[]
  instanceTypes := #[]
  staticTypes := #[]
  resolved := Array.replicate 106 none
  statics := none }

def pool5 : Array CpInfo := pool [(14, .class_ 16), (1, u "java/util/SortedMap"), (2, .class_ 20), (0, u "java/lang/Object"), (0, .class_ 22), (0, u "java/util/SequencedMap")] 50

/-- java/util/SortedMap -/
def k5 : Class := { plain "java/util/SortedMap" (some 0) with
  accessFlags := 1537
  interfaces := #[4]
  cf := some (fileOf pool5 14 #[] #[] 1537 19 #[21] #[])
  fields := #[]
  methods := #[]
  instanceTypes := #[]
  staticTypes := #[]
  resolved := Array.replicate 73 none
  statics := none }

def pool6 : Array CpInfo := pool [(2, .class_ 4), (1, u "java/util/NavigableMap"), (5, .class_ 11), (0, u "java/lang/Object"), (0, .class_ 13), (0, u "java/util/SortedMap")] 53

/-- java/util/NavigableMap -/
def k6 : Class := { plain "java/util/NavigableMap" (some 0) with
  accessFlags := 1537
  interfaces := #[5]
  cf := some (fileOf pool6 2 #[] #[] 1537 10 #[12] #[])
  fields := #[]
  methods := #[]
  instanceTypes := #[]
  staticTypes := #[]
  resolved := Array.replicate 67 none
  statics := none }

def pool7 : Array CpInfo := pool [(1, .class_ 2), (0, u "java/lang/Cloneable"), (0, .class_ 4), (0, u "java/lang/Object")] 2

/-- java/lang/Cloneable -/
def k7 : Class := { plain "java/lang/Cloneable" (some 0) with
  accessFlags := 1537
  interfaces := #[]
  cf := some (fileOf pool7 1 #[] #[] 1537 3 #[] #[])
  fields := #[]
  methods := #[]
  instanceTypes := #[]
  staticTypes := #[]
  resolved := Array.replicate 7 none
  statics := none }

def pool8 : Array CpInfo := pool [(1, .class_ 2), (0, u "java/io/Serializable"), (0, .class_ 4), (0, u "java/lang/Object")] 2

/-- java/io/Serializable -/
def k8 : Class := { plain "java/io/Serializable" (some 0) with
  accessFlags := 1537
  interfaces := #[]
  cf := some (fileOf pool8 1 #[] #[] 1537 3 #[] #[])
  fields := #[]
  methods := #[]
  instanceTypes := #[]
  staticTypes := #[]
  resolved := Array.replicate 7 none
  statics := none }

def pool9 : Array CpInfo := pool [(3, .methodref 4 5), (0, .class_ 6), (0, .nameAndType 7 8), (0, u "gatherwick/core/BaseMap"), (0, u "<init>"), (0, u "()V"), (0, .fieldref 10 11), (0, .class_ 12), (0, .nameAndType 13 14), (0, u "gatherwick/maps/GwTreeMap"), (0, u "comparator"), (0, u "Ljava/util/Comparator;"), (51, u "(Ljava/lang/Object;)Ljava/lang/Object;"), (11, u "()I"), (0, .methodref 10 80), (0, .nameAndType 81 82), (0, u "checkRoom"), (0, u "(I)V"), (8, .methodref 10 92), (0, .nameAndType 93 94), (0, u "putIn"), (0, u "(Lgatherwick/maps/GwTreeMap$SubMap;Ljava/lang/Object;Ljava/lang/Object;)Ljava/lang/Object;"), (0, .fieldref 96 97), (0, .class_ 98), (0, .nameAndType 99 100), (0, u "gatherwick/maps/RedBlackTree$Node"), (0, u "key"), (0, u "Ljava/lang/Object;"), (0, .methodref 10 102), (0, .nameAndType 103 104), (0, u "compare"), (0, u "(Ljava/lang/Object;Ljava/lang/Object;)I"), (0, .fieldref 10 106), (0, .nameAndType 107 108), (0, u "size"), (0, u "I"), (3, .fieldref 10 113), (0, .nameAndType 114 115), (0, u "root"), (0, u "Lgatherwick/maps/RedBlackTree$Node;"), (0, .methodref 10 117), (0, .nameAndType 118 119), (0, u "getIn"), (0, u "(Lgatherwick/maps/GwTreeMap$SubMap;Ljava/lang/Object;)Ljava/lang/Object;"), (10, .fieldref 96 131), (0, .nameAndType 132 100), (0, u "value"), (7, .class_ 142), (1, u "gatherwick/maps/RedBlackTree"), (17, .fieldref 10 161), (0, .nameAndType 162 108), (0, u "modCount"), (35, u "(Ljava/lang/Object;Ljava/lang/Object;)Ljava/lang/Object;"), (24, u "whole"), (2, .class_ 228), (1, u "gatherwick/maps/GwTreeMap$SubMap"), (29, .class_ 260), (1, u "java/util/NavigableMap"), (9, u "Lgatherwick/maps/GwTreeMap$SubMap;"), (87, u "Z"), (19, .class_ 379), (0, u "gatherwick/maps/GwTreeMap$Snapshot"), (6, .methodref 10 387), (0, .nameAndType 388 389), (0, u "find"), (0, u "(Lgatherwick/maps/GwTreeMap$SubMap;Ljava/lang/Object;)Lgatherwick/maps/RedBlackTree$Node;"), (0, .methodref 10 391), (0, .nameAndType 392 393), (0, u "locateToAdd"), (0, u "(Lgatherwick/maps/GwTreeMap$SubMap;Ljava/lang/Object;)Lgatherwick/maps/GwTreeMap$Place;"), (0, .fieldref 395 396), (0, .class_ 397), (0, .nameAndType 398 115), (0, u "gatherwick/maps/GwTreeMap$Place"), (0, u "node"), (0, .methodref 96 400), (0, .nameAndType 401 66), (0, u "setValue"), (0, .methodref 10 403), (0, .nameAndType 404 405), (0, u "link"), (0, u "(Lgatherwick/maps/GwTreeMap$Place;Ljava/lang/Object;Ljava/lang/Object;)V"), (0, .methodref 10 407), (0, .nameAndType 408 393), (0, u "locate"), (14, .methodref 10 424), (0, .nameAndType 425 426), (0, u "search"), (0, u "(Ljava/lang/Object;Lgatherwick/maps/GwTreeMap$Place;Z)Lgatherwick/maps/RedBlackTree$Node;"), (0, .methodref 395 5), (16, .methodref 445 446), (0, .class_ 447), (0, .nameAndType 103 448), (0, u "gatherwick/core/Sorting"), (0, u "(Ljava/util/Comparator;Ljava/lang/Object;Ljava/lang/Object;)I"), (0, .fieldref 96 450), (0, .nameAndType 451 115), (0, u "left"), (0, .fieldref 96 453), (0, .nameAndType 454 115), (0, u "right"), (0, .fieldref 395 456), (0, .nameAndType 457 115), (0, u "parent"), (0, .fieldref 395 459), (0, .nameAndType 451 358), (11, .methodref 96 472), (0, .nameAndType 7 473), (0, u "(Ljava/lang/Object;Ljava/lang/Object;Lgatherwick/maps/RedBlackTree$Node;)V"), (0, .methodref 140 475), (0, .nameAndType 404 476), (0, u "(Lgatherwick/maps/RedBlackTree$Node;Lgatherwick/maps/RedBlackTree$Node;Z)Lgatherwick/maps/RedBlackTree$Node;"), (0, .integer 2147483639), (14, .class_ 493), (0, u "java/lang/Cloneable"), (0, .class_ 495), (0, u "java/io/Serializable"), (0, u "serialVersionUID"), (0, u "J"), (23, u "get"), (5, u "put"), (6, u "clear"), (91, .class_ 627), (0, u "gatherwick/maps/GwTreeMap$Walk"), (0, .class_ 629), (0, u "gatherwick/maps/GwTreeMap$SerializedView"), (0, .class_ 631), (0, u "gatherwick/maps/GwTreeMap$SubMap$EntrySet"), (0, .class_ 633), (0, u "gatherwick/maps/GwTreeMap$SubMap$Values"), (0, .class_ 635), (0, u "gatherwick/maps/GwTreeMap$SubMap$KeySet")] 56

def k9c0 : Code := { maxStack := 2, maxLocals := 1, code := prog_46_method_1_code, exceptionTable := #[], attributes := #[] }
def k9m0 : Method := { name := "<init>", desc := "()V", sig := { parameters := [], returnType := none }, accessFlags := 1, code := some k9c0 }
def k9c1 : Code := { maxStack := 1, maxLocals := 1, code := prog_46_method_9_code, exceptionTable := #[], attributes := #[] }
def k9m1 : Method := { name := "size", desc := "()I", sig := { parameters := [], returnType := some .int }, accessFlags := 1, code := some k9c1 }
def k9c2 : Code := { maxStack := 3, maxLocals := 2, code := prog_46_method_12_code, exceptionTable := #[], attributes := #[] }
def k9m2 : Method := { name := "get", desc := "(Ljava/lang/Object;)Ljava/lang/Object;", sig := { parameters := [(.object "java/lang/Object")], returnType := some (.object "java/lang/Object") }, accessFlags := 1, code := some k9c2 }
def k9c3 : Code := { maxStack := 4, maxLocals := 3, code := prog_46_method_16_code, exceptionTable := #[], attributes := #[] }
def k9m3 : Method := { name := "put", desc := "(Ljava/lang/Object;Ljava/lang/Object;)Ljava/lang/Object;", sig := { parameters := [(.object "java/lang/Object"), (.object "java/lang/Object")], returnType := some (.object "java/lang/Object") }, accessFlags := 1, code := some k9c3 }
def k9c4 : Code := { maxStack := 3, maxLocals := 1, code := prog_46_method_22_code, exceptionTable := #[], attributes := #[] }
def k9m4 : Method := { name := "clear", desc := "()V", sig := { parameters := [], returnType := none }, accessFlags := 1, code := some k9c4 }
def k9c5 : Code := { maxStack := 3, maxLocals := 4, code := prog_46_method_67_code, exceptionTable := #[], attributes := #[] }
def k9m5 : Method := { name := "getIn", desc := "(Lgatherwick/maps/GwTreeMap$SubMap;Ljava/lang/Object;)Ljava/lang/Object;", sig := { parameters := [(.object "gatherwick/maps/GwTreeMap$SubMap"), (.object "java/lang/Object")], returnType := some (.object "java/lang/Object") }, accessFlags := 2, code := some k9c5 }
def k9c6 : Code := { maxStack := 4, maxLocals := 5, code := prog_46_method_69_code, exceptionTable := #[], attributes := #[] }
def k9m6 : Method := { name := "putIn", desc := "(Lgatherwick/maps/GwTreeMap$SubMap;Ljava/lang/Object;Ljava/lang/Object;)Ljava/lang/Object;", sig := { parameters := [(.object "gatherwick/maps/GwTreeMap$SubMap"), (.object "java/lang/Object"), (.object "java/lang/Object")], returnType := some (.object "java/lang/Object") }, accessFlags := 2, code := some k9c6 }
def k9c7 : Code := { maxStack := 4, maxLocals := 3, code := prog_46_method_79_code, exceptionTable := #[], attributes := #[] }
def k9m7 : Method := { name := "find", desc := "(Lgatherwick/maps/GwTreeMap$SubMap;Ljava/lang/Object;)Lgatherwick/maps/RedBlackTree$Node;", sig := { parameters := [(.object "gatherwick/maps/GwTreeMap$SubMap"), (.object "java/lang/Object")], returnType := some (.object "gatherwick/maps/RedBlackTree$Node") }, accessFlags := 2, code := some k9c7 }
def k9c8 : Code := { maxStack := 4, maxLocals := 4, code := prog_46_method_80_code, exceptionTable := #[], attributes := #[] }
def k9m8 : Method := { name := "locate", desc := "(Lgatherwick/maps/GwTreeMap$SubMap;Ljava/lang/Object;)Lgatherwick/maps/GwTreeMap$Place;", sig := { parameters := [(.object "gatherwick/maps/GwTreeMap$SubMap"), (.object "java/lang/Object")], returnType := some (.object "gatherwick/maps/GwTreeMap$Place") }, accessFlags := 2, code := some k9c8 }
def k9c9 : Code := { maxStack := 3, maxLocals := 4, code := prog_46_method_81_code, exceptionTable := #[], attributes := #[] }
def k9m9 : Method := { name := "locateToAdd", desc := "(Lgatherwick/maps/GwTreeMap$SubMap;Ljava/lang/Object;)Lgatherwick/maps/GwTreeMap$Place;", sig := { parameters := [(.object "gatherwick/maps/GwTreeMap$SubMap"), (.object "java/lang/Object")], returnType := some (.object "gatherwick/maps/GwTreeMap$Place") }, accessFlags := 2, code := some k9c9 }
def k9c10 : Code := { maxStack := 3, maxLocals := 3, code := prog_46_method_85_code, exceptionTable := #[], attributes := #[] }
def k9m10 : Method := { name := "compare", desc := "(Ljava/lang/Object;Ljava/lang/Object;)I", sig := { parameters := [(.object "java/lang/Object"), (.object "java/lang/Object")], returnType := some .int }, accessFlags := 2, code := some k9c10 }
def k9c11 : Code := { maxStack := 3, maxLocals := 7, code := prog_46_method_86_code, exceptionTable := #[], attributes := #[] }
def k9m11 : Method := { name := "search", desc := "(Ljava/lang/Object;Lgatherwick/maps/GwTreeMap$Place;Z)Lgatherwick/maps/RedBlackTree$Node;", sig := { parameters := [(.object "java/lang/Object"), (.object "gatherwick/maps/GwTreeMap$Place"), .boolean], returnType := some (.object "gatherwick/maps/RedBlackTree$Node") }, accessFlags := 2, code := some k9c11 }
def k9c12 : Code := { maxStack := 7, maxLocals := 4, code := prog_46_method_92_code, exceptionTable := #[], attributes := #[] }
def k9m12 : Method := { name := "link", desc := "(Lgatherwick/maps/GwTreeMap$Place;Ljava/lang/Object;Ljava/lang/Object;)V", sig := { parameters := [(.object "gatherwick/maps/GwTreeMap$Place"), (.object "java/lang/Object"), (.object "java/lang/Object")], returnType := none }, accessFlags := 2, code := some k9c12 }
def k9c13 : Code := { maxStack := 3, maxLocals := 1, code := prog_46_method_93_code, exceptionTable := #[], attributes := #[] }
def k9m13 : Method := { name := "checkRoom", desc := "(I)V", sig := { parameters := [.int], returnType := none }, accessFlags := 10, code := some k9c13 }
/-- gatherwick/maps/GwTreeMap -/
def k9 : Class := { plain "gatherwick/maps/GwTreeMap" (some 3) with
  accessFlags := 33
  interfaces := #[6, 7, 8]
  cf := some (fileOf pool9 10 #[.nestMembers #[626, 628, 226, 630, 632, 634, 378, 395]] #[{ accessFlags := 1, nameIndex := 7, descriptorIndex := 8, attributes := #[] }, { accessFlags := 1, nameIndex := 107, descriptorIndex := 78, attributes := #[] }, { accessFlags := 1, nameIndex := 521, descriptorIndex := 66, attributes := #[] }, { accessFlags := 1, nameIndex := 527, descriptorIndex := 198, attributes := #[] }, { accessFlags := 1, nameIndex := 534, descriptorIndex := 8, attributes := #[] }, { accessFlags := 2, nameIndex := 118, descriptorIndex := 119, attributes := #[] }, { accessFlags := 2, nameIndex := 93, descriptorIndex := 94, attributes := #[] }, { accessFlags := 2, nameIndex := 388, descriptorIndex := 389, attributes := #[] }, { accessFlags := 2, nameIndex := 408, descriptorIndex := 393, attributes := #[] }, { accessFlags := 2, nameIndex := 392, descriptorIndex := 393, attributes := #[] }, { accessFlags := 2, nameIndex := 103, descriptorIndex := 104, attributes := #[] }, { accessFlags := 2, nameIndex := 425, descriptorIndex := 426, attributes := #[] }, { accessFlags := 2, nameIndex := 404, descriptorIndex := 405, attributes := #[] }, { accessFlags := 10, nameIndex := 81, descriptorIndex := 82, attributes := #[] }] 33 4 #[258, 492, 494] #[{ accessFlags := 26, nameIndex := 496, descriptorIndex := 497, attributes := #[] }, { accessFlags := 18, nameIndex := 13, descriptorIndex := 14, attributes := #[] }, { accessFlags := 130, nameIndex := 114, descriptorIndex := 115, attributes := #[] }, { accessFlags := 130, nameIndex := 107, descriptorIndex := 108, attributes := #[] }, { accessFlags := 130, nameIndex := 162, descriptorIndex := 108, attributes := #[] }, { accessFlags := 130, nameIndex := 223, descriptorIndex := 270, attributes := #[] }])
  fields := #[{ name := "serialVersionUID", type := .long, accessFlags := 26, slot := 0, constantValue := 0 }, { name := "comparator", type := (.object "java/util/Comparator"), accessFlags := 18, slot := 0, constantValue := 0 }, { name := "root", type := (.object "gatherwick/maps/RedBlackTree$Node"), accessFlags := 130, slot := 1, constantValue := 0 }, { name := "size", type := .int, accessFlags := 130, slot := 2, constantValue := 0 }, { name := "modCount", type := .int, accessFlags := 130, slot := 3, constantValue := 0 }, { name := "whole", type := (.object "gatherwick/maps/GwTreeMap$SubMap"), accessFlags := 130, slot := 4, constantValue := 0 }]
  methods := #[k9m0, k9m1, k9m2, k9m3, k9m4, k9m5, k9m6, k9m7, k9m8, k9m9, k9m10, k9m11, k9m12, k9m13]
  instanceTypes := #[(.object "java/util/Comparator"), (.object "gatherwick/maps/RedBlackTree$Node"), .int, .int, (.object "gatherwick/maps/GwTreeMap$SubMap")]
  staticTypes := #[.long]
  resolved := (((Array.replicate 692 none).setIfInBounds 427 (some (.method ⟨17, 0⟩))).setIfInBounds 395 (some (.cls 17)))
  statics := none }

def pool10 : Array CpInfo := pool [(1, .methodref 2 3), (0, .class_ 4), (0, .nameAndType 5 6), (0, u "java/lang/Object"), (0, u "<init>"), (0, u "()V"), (1, .class_ 10), (1, u "java/lang/Number"), (2, .class_ 14), (0, u "java/io/Serializable"), (0, u "serialVersionUID"), (0, u "J")] 20

def k10c0 : Code := { maxStack := 1, maxLocals := 1, code := jdk_18_method_1_code, exceptionTable := #[], attributes := #[] }
def k10m0 : Method := { name := "<init>", desc := "()V", sig := { parameters := [], returnType := none }, accessFlags := 1, code := some k10c0 }
/-- java/lang/Number -/
def k10 : Class := { plain "java/lang/Number" (some 0) with
  accessFlags := 1057
  interfaces := #[8]
  cf := some (fileOf pool10 8 #[] #[{ accessFlags := 1, nameIndex := 5, descriptorIndex := 6, attributes := #[] }] 1057 2 #[13] #[{ accessFlags := 26, nameIndex := 15, descriptorIndex := 16, attributes := #[] }])
  fields := #[{ name := "serialVersionUID", type := .long, accessFlags := 26, slot := 0, constantValue := 0 }]
  methods := #[k10m0]
  instanceTypes := #[]
  staticTypes := #[.long]
  resolved := Array.replicate 37 none
  statics := none }

def pool11 : Array CpInfo := pool [(1, .class_ 2), (0, u "java/lang/Comparable"), (0, .class_ 4), (0, u "java/lang/Object"), (0, u "compareTo"), (0, u "(Ljava/lang/Object;)I")] 5

def k11m0 : Method := { name := "compareTo", desc := "(Ljava/lang/Object;)I", sig := { parameters := [(.object "java/lang/Object")], returnType := some .int }, accessFlags := 1025, code := none }
/-- java/lang/Comparable -/
def k11 : Class := { plain "java/lang/Comparable" (some 0) with
  accessFlags := 1537
  interfaces := #[]
  cf := some (fileOf pool11 1 #[] #[{ accessFlags := 1025, nameIndex := 5, descriptorIndex := 6, attributes := #[] }] 1537 3 #[] #[])
  fields := #[]
  methods := #[k11m0]
  instanceTypes := #[]
  staticTypes := #[]
  resolved := Array.replicate 12 none
  statics := none }

def pool12 : Array CpInfo := pool [(1, .class_ 2), (0, u "java/lang/constant/Constable"), (0, .class_ 4), (0, u "java/lang/Object")] 6

/-- java/lang/constant/Constable -/
def k12 : Class := { plain "java/lang/constant/Constable" (some 0) with
  accessFlags := 1537
  interfaces := #[]
  cf := some (fileOf pool12 1 #[] #[] 1537 3 #[] #[])
  fields := #[]
  methods := #[]
  instanceTypes := #[]
  staticTypes := #[]
  resolved := Array.replicate 11 none
  statics := none }

def pool13 : Array CpInfo := pool [(1, .class_ 2), (0, u "java/lang/constant/ConstantDesc"), (0, .class_ 4), (0, u "java/lang/Object")] 32

/-- java/lang/constant/ConstantDesc -/
def k13 : Class := { plain "java/lang/constant/ConstantDesc" (some 0) with
  accessFlags := 1537
  interfaces := #[]
  cf := some (fileOf pool13 1 #[] #[] 1537 3 #[] #[])
  fields := #[]
  methods := #[]
  instanceTypes := #[]
  staticTypes := #[]
  resolved := Array.replicate 37 none
  statics := none }

def pool14 : Array CpInfo := pool [(1, .class_ 2), (0, u "java/lang/Integer"), (16, u "digits"), (0, u "[C"), (39, u "(II)I"), (6, u "<init>"), (17, u "DigitOnes"), (0, u "[B"), (2, u "DigitTens"), (10, .nameAndType 67 101), (0, u "()V"), (19, u "()I"), (65, u "valueOf"), (0, u "(I)Ljava/lang/Integer;"), (0, .class_ 190), (0, u "java/lang/Integer$IntegerCache"), (0, .fieldref 189 192), (0, .nameAndType 193 194), (0, u "high"), (0, u "I"), (0, .fieldref 189 196), (0, .nameAndType 197 198), (0, u "cache"), (0, u "[Ljava/lang/Integer;"), (0, .methodref 1 200), (0, .nameAndType 67 201), (0, u "(I)V"), (0, .methodref 203 100), (0, .class_ 204), (0, u "java/lang/Number"), (0, .fieldref 1 206), (0, .nameAndType 207 194), (0, u "value"), (5, u "intValue"), (45, .methodref 1 260), (0, .nameAndType 261 60), (0, u "compare"), (22, .methodref 1 285), (0, .nameAndType 286 287), (0, u "compareTo"), (0, u "(Ljava/lang/Integer;)I"), (14, u "TYPE"), (0, u "Ljava/lang/Class;"), (0, .class_ 305), (0, u "java/lang/Comparable"), (0, .class_ 307), (0, u "java/lang/constant/Constable"), (0, .class_ 309), (0, u "java/lang/constant/ConstantDesc"), (0, u "MIN_VALUE"), (1, u "MAX_VALUE"), (3, u "SIZE"), (1, u "BYTES"), (1, u "serialVersionUID"), (0, u "J"), (113, u "(Ljava/lang/Object;)I")] 17

def k14c0 : Code := { maxStack := 3, maxLocals := 1, code := jdk_33_method_22_code, exceptionTable := #[], attributes := #[] }
def k14m0 : Method := { name := "valueOf", desc := "(I)Ljava/lang/Integer;", sig := { parameters := [.int], returnType := some (.object "java/lang/Integer") }, accessFlags := 9, code := some k14c0 }
def k14c1 : Code := { maxStack := 2, maxLocals := 2, code := jdk_33_method_23_code, exceptionTable := #[], attributes := #[] }
def k14m1 : Method := { name := "<init>", desc := "(I)V", sig := { parameters := [.int], returnType := none }, accessFlags := 1, code := some k14c1 }
def k14c2 : Code := { maxStack := 1, maxLocals := 1, code := jdk_33_method_27_code, exceptionTable := #[], attributes := #[] }
def k14m2 : Method := { name := "intValue", desc := "()I", sig := { parameters := [], returnType := some .int }, accessFlags := 1, code := some k14c2 }
def k14c3 : Code := { maxStack := 2, maxLocals := 2, code := jdk_33_method_39_code, exceptionTable := #[], attributes := #[] }
def k14m3 : Method := { name := "compareTo", desc := "(Ljava/lang/Integer;)I", sig := { parameters := [(.object "java/lang/Integer")], returnType := some .int }, accessFlags := 1, code := some k14c3 }
def k14c4 : Code := { maxStack := 2, maxLocals := 2, code := jdk_33_method_40_code, exceptionTable := #[], attributes := #[] }
def k14m4 : Method := { name := "compare", desc := "(II)I", sig := { parameters := [.int, .int], returnType := some .int }, accessFlags := 9, code := some k14c4 }
def k14c5 : Code := { maxStack := 2, maxLocals := 2, code := jdk_33_method_63_code, exceptionTable := #[], attributes := #[] }
def k14m5 : Method := { name := "compareTo", desc := "(Ljava/lang/Object;)I", sig := { parameters := [(.object "java/lang/Object")], returnType := some .int }, accessFlags := 4161, code := some k14c5 }
/-- java/lang/Integer -/
def k14 : Class := { plain "java/lang/Integer" (some 10) with
  accessFlags := 49
  interfaces := #[11, 12, 13]
  cf := some (fileOf pool14 1 #[.nestMembers #[189]] #[{ accessFlags := 9, nameIndex := 187, descriptorIndex := 188, attributes := #[] }, { accessFlags := 1, nameIndex := 67, descriptorIndex := 201, attributes := #[] }, { accessFlags := 1, nameIndex := 213, descriptorIndex := 121, attributes := #[] }, { accessFlags := 1, nameIndex := 286, descriptorIndex := 287, attributes := #[] }, { accessFlags := 9, nameIndex := 261, descriptorIndex := 60, attributes := #[] }, { accessFlags := 4161, nameIndex := 286, descriptorIndex := 435, attributes := #[] }] 49 203 #[304, 306, 308] #[{ accessFlags := 25, nameIndex := 310, descriptorIndex := 194, attributes := #[] }, { accessFlags := 25, nameIndex := 312, descriptorIndex := 194, attributes := #[] }, { accessFlags := 25, nameIndex := 302, descriptorIndex := 303, attributes := #[] }, { accessFlags := 24, nameIndex := 19, descriptorIndex := 20, attributes := #[] }, { accessFlags := 24, nameIndex := 89, descriptorIndex := 86, attributes := #[] }, { accessFlags := 24, nameIndex := 85, descriptorIndex := 86, attributes := #[] }, { accessFlags := 18, nameIndex := 207, descriptorIndex := 194, attributes := #[] }, { accessFlags := 25, nameIndex := 316, descriptorIndex := 194, attributes := #[] }, { accessFlags := 25, nameIndex := 318, descriptorIndex := 194, attributes := #[] }, { accessFlags := 26, nameIndex := 320, descriptorIndex := 321, attributes := #[] }])
  fields := #[{ name := "MIN_VALUE", type := .int, accessFlags := 25, slot := 0, constantValue := 0 }, { name := "MAX_VALUE", type := .int, accessFlags := 25, slot := 1, constantValue := 0 }, { name := "TYPE", type := (.object "java/lang/Class"), accessFlags := 25, slot := 2, constantValue := 0 }, { name := "digits", type := (.array .char), accessFlags := 24, slot := 3, constantValue := 0 }, { name := "DigitTens", type := (.array .byte), accessFlags := 24, slot := 4, constantValue := 0 }, { name := "DigitOnes", type := (.array .byte), accessFlags := 24, slot := 5, constantValue := 0 }, { name := "value", type := .int, accessFlags := 18, slot := 0, constantValue := 0 }, { name := "SIZE", type := .int, accessFlags := 25, slot := 6, constantValue := 0 }, { name := "BYTES", type := .int, accessFlags := 25, slot := 7, constantValue := 0 }, { name := "serialVersionUID", type := .long, accessFlags := 26, slot := 8, constantValue := 0 }]
  methods := #[k14m0, k14m1, k14m2, k14m3, k14m4, k14m5]
  instanceTypes := #[.int]
  staticTypes := #[.int, .int, (.object "java/lang/Class"), (.array .char), (.array .byte), (.array .byte), .int, .int, .long]
  resolved := Array.replicate 453 none
  statics := none }

def pool15 : Array CpInfo := pool [(2, .class_ 4), (1, u "java/lang/Object"), (0, u "<init>"), (0, u "()V"), (0, .class_ 8), (0, u "java/lang/Integer"), (7, .class_ 18), (1, u "java/lang/Integer$IntegerCache"), (0, u "$assertionsDisabled"), (0, u "Z"), (26, u "high"), (0, u "I"), (8, u "archivedCache"), (0, u "[Ljava/lang/Integer;"), (12, u "cache"), (0, u "low")] 27

def k15m0 : Method := { name := "<init>", desc := "()V", sig := { parameters := [], returnType := none }, accessFlags := 2, code := none }
/-- java/lang/Integer$IntegerCache -/
def k15 : Class := { plain "java/lang/Integer$IntegerCache" (some 0) with
  accessFlags := 48
  interfaces := #[]
  cf := some (fileOf pool15 16 #[.nestHost 7] #[{ accessFlags := 2, nameIndex := 5, descriptorIndex := 6, attributes := #[] }] 48 2 #[] #[{ accessFlags := 24, nameIndex := 72, descriptorIndex := 48, attributes := #[] }, { accessFlags := 24, nameIndex := 47, descriptorIndex := 48, attributes := #[] }, { accessFlags := 24, nameIndex := 71, descriptorIndex := 58, attributes := #[] }, { accessFlags := 8, nameIndex := 57, descriptorIndex := 58, attributes := #[] }, { accessFlags := 4120, nameIndex := 19, descriptorIndex := 20, attributes := #[] }])
  fields := #[{ name := "low", type := .int, accessFlags := 24, slot := 0, constantValue := 0 }, { name := "high", type := .int, accessFlags := 24, slot := 1, constantValue := 0 }, { name := "cache", type := (.array (.object "java/lang/Integer")), accessFlags := 24, slot := 2, constantValue := 0 }, { name := "archivedCache", type := (.array (.object "java/lang/Integer")), accessFlags := 8, slot := 3, constantValue := 0 }, { name := "$assertionsDisabled", type := .boolean, accessFlags := 4120, slot := 4, constantValue := 0 }]
  methods := #[k15m0]
  instanceTypes := #[]
  staticTypes := #[.int, .int, (.array (.object "java/lang/Integer")), (.array (.object "java/lang/Integer")), .boolean]
  resolved := Array.replicate 100 none
  statics := some 0 }

def pool16 : Array CpInfo := pool [(2, .class_ 4), (1, u "java/lang/Object"), (0, u "<init>"), (0, u "()V"), (17, .class_ 26), (1, u "gatherwick/core/Sorting"), (6, u "compare"), (1, .class_ 36), (0, u "java/lang/Comparable"), (0, .interfaceMethodref 35 38), (0, .nameAndType 39 40), (0, u "compareTo"), (0, u "(Ljava/lang/Object;)I"), (22, u "INSERTION_MAX"), (0, u "I"), (9, u "(Ljava/util/Comparator;Ljava/lang/Object;Ljava/lang/Object;)I")] 9

def k16m0 : Method := { name := "<init>", desc := "()V", sig := { parameters := [], returnType := none }, accessFlags := 2, code := none }
def k16c1 : Code := { maxStack := 3, maxLocals := 3, code := prog_23_method_3_code, exceptionTable := #[], attributes := #[] }
def k16m1 : Method := { name := "compare", desc := "(Ljava/util/Comparator;Ljava/lang/Object;Ljava/lang/Object;)I", sig := { parameters := [(.object "java/util/Comparator"), (.object "java/lang/Object"), (.object "java/lang/Object")], returnType := some .int }, accessFlags := 9, code := some k16c1 }
/-- gatherwick/core/Sorting -/
def k16 : Class := { plain "gatherwick/core/Sorting" (some 0) with
  accessFlags := 49
  interfaces := #[]
  cf := some (fileOf pool16 24 #[] #[{ accessFlags := 2, nameIndex := 5, descriptorIndex := 6, attributes := #[] }, { accessFlags := 9, nameIndex := 33, descriptorIndex := 74, attributes := #[] }] 49 2 #[] #[{ accessFlags := 26, nameIndex := 63, descriptorIndex := 64, attributes := #[] }])
  fields := #[{ name := "INSERTION_MAX", type := .int, accessFlags := 26, slot := 0, constantValue := 0 }]
  methods := #[k16m0, k16m1]
  instanceTypes := #[]
  staticTypes := #[.int]
  resolved := Array.replicate 84 none
  statics := none }

def pool17 : Array CpInfo := pool [(1, .methodref 2 3), (0, .class_ 4), (0, .nameAndType 5 6), (0, u "java/lang/Object"), (0, u "<init>"), (0, u "()V"), (0, .class_ 8), (0, u "gatherwick/maps/GwTreeMap$Place"), (0, u "node"), (0, u "Lgatherwick/maps/RedBlackTree$Node;"), (2, u "parent"), (0, u "left"), (0, u "Z"), (6, .class_ 23), (0, u "gatherwick/maps/GwTreeMap")] 7

def k17c0 : Code := { maxStack := 1, maxLocals := 1, code := prog_47_method_1_code, exceptionTable := #[], attributes := #[] }
def k17m0 : Method := { name := "<init>", desc := "()V", sig := { parameters := [], returnType := none }, accessFlags := 2, code := some k17c0 }
/-- gatherwick/maps/GwTreeMap$Place -/
def k17 : Class := { plain "gatherwick/maps/GwTreeMap$Place" (some 0) with
  accessFlags := 48
  interfaces := #[]
  cf := some (fileOf pool17 7 #[.nestHost 22] #[{ accessFlags := 2, nameIndex := 5, descriptorIndex := 6, attributes := #[] }] 48 2 #[] #[{ accessFlags := 0, nameIndex := 9, descriptorIndex := 10, attributes := #[] }, { accessFlags := 0, nameIndex := 13, descriptorIndex := 10, attributes := #[] }, { accessFlags := 0, nameIndex := 14, descriptorIndex := 15, attributes := #[] }])
  fields := #[{ name := "node", type := (.object "gatherwick/maps/RedBlackTree$Node"), accessFlags := 0, slot := 0, constantValue := 0 }, { name := "parent", type := (.object "gatherwick/maps/RedBlackTree$Node"), accessFlags := 0, slot := 1, constantValue := 0 }, { name := "left", type := .boolean, accessFlags := 0, slot := 2, constantValue := 0 }]
  methods := #[k17m0]
  instanceTypes := #[(.object "gatherwick/maps/RedBlackTree$Node"), (.object "gatherwick/maps/RedBlackTree$Node"), .boolean]
  staticTypes := #[]
  resolved := Array.replicate 31 none
  statics := none }

def pool18 : Array CpInfo := pool [(23, .class_ 25), (1, u "java/util/Map$Entry"), (6, .class_ 34), (1, u "java/util/Map"), (34, .class_ 70), (0, u "java/lang/Object")] 107

/-- java/util/Map$Entry -/
def k18 : Class := { plain "java/util/Map$Entry" (some 0) with
  accessFlags := 1537
  interfaces := #[]
  cf := some (fileOf pool18 23 #[.nestHost 32] #[] 1537 69 #[] #[])
  fields := #[]
  methods := #[]
  instanceTypes := #[]
  staticTypes := #[]
  resolved := Array.replicate 178 none
  statics := none }

def pool19 : Array CpInfo := pool [(1, .methodref 2 3), (0, .class_ 4), (0, .nameAndType 5 6), (0, u "java/lang/Object"), (0, u "<init>"), (0, u "()V"), (0, .class_ 8), (0, u "java/util/Map$Entry"), (1, .class_ 12), (1, u "gatherwick/core/BaseEntry")] 56

def k19c0 : Code := { maxStack := 1, maxLocals := 1, code := prog_15_method_1_code, exceptionTable := #[], attributes := #[] }
def k19m0 : Method := { name := "<init>", desc := "()V", sig := { parameters := [], returnType := none }, accessFlags := 4, code := some k19c0 }
/-- gatherwick/core/BaseEntry -/
def k19 : Class := { plain "gatherwick/core/BaseEntry" (some 0) with
  accessFlags := 1057
  interfaces := #[18]
  cf := some (fileOf pool19 10 #[] #[{ accessFlags := 4, nameIndex := 5, descriptorIndex := 6, attributes := #[] }] 1057 2 #[7] #[])
  fields := #[]
  methods := #[k19m0]
  instanceTypes := #[]
  staticTypes := #[]
  resolved := Array.replicate 69 none
  statics := none }

def pool20 : Array CpInfo := pool [(1, .methodref 2 3), (0, .class_ 4), (0, .nameAndType 5 6), (0, u "gatherwick/core/BaseEntry"), (0, u "<init>"), (0, u "()V"), (0, .fieldref 8 9), (0, .class_ 10), (0, .nameAndType 11 12), (0, u "gatherwick/maps/RedBlackTree$Node"), (0, u "red"), (0, u "Z"), (0, .fieldref 8 14), (0, .nameAndType 15 16), (0, u "key"), (0, u "Ljava/lang/Object;"), (0, .fieldref 8 18), (0, .nameAndType 19 16), (0, u "value"), (0, .fieldref 8 21), (0, .nameAndType 22 23), (0, u "parent"), (0, u "Lgatherwick/maps/RedBlackTree$Node;"), (3, u "left"), (1, u "right"), (0, u "(Ljava/lang/Object;Ljava/lang/Object;Lgatherwick/maps/RedBlackTree$Node;)V"), (8, u "setValue"), (0, u "(Ljava/lang/Object;)Ljava/lang/Object;"), (5, .class_ 47), (0, u "gatherwick/maps/RedBlackTree")] 2

def k20c0 : Code := { maxStack := 2, maxLocals := 4, code := prog_59_method_1_code, exceptionTable := #[], attributes := #[] }
def k20m0 : Method := { name := "<init>", desc := "(Ljava/lang/Object;Ljava/lang/Object;Lgatherwick/maps/RedBlackTree$Node;)V", sig := { parameters := [(.object "java/lang/Object"), (.object "java/lang/Object"), (.object "gatherwick/maps/RedBlackTree$Node")], returnType := none }, accessFlags := 0, code := some k20c0 }
def k20c1 : Code := { maxStack := 2, maxLocals := 3, code := prog_59_method_4_code, exceptionTable := #[], attributes := #[] }
def k20m1 : Method := { name := "setValue", desc := "(Ljava/lang/Object;)Ljava/lang/Object;", sig := { parameters := [(.object "java/lang/Object")], returnType := some (.object "java/lang/Object") }, accessFlags := 1, code := some k20c1 }
/-- gatherwick/maps/RedBlackTree$Node -/
def k20 : Class := { plain "gatherwick/maps/RedBlackTree$Node" (some 19) with
  accessFlags := 48
  interfaces := #[]
  cf := some (fileOf pool20 8 #[.nestHost 46] #[{ accessFlags := 0, nameIndex := 5, descriptorIndex := 30, attributes := #[] }, { accessFlags := 1, nameIndex := 39, descriptorIndex := 40, attributes := #[] }] 48 2 #[] #[{ accessFlags := 16, nameIndex := 15, descriptorIndex := 16, attributes := #[] }, { accessFlags := 0, nameIndex := 19, descriptorIndex := 16, attributes := #[] }, { accessFlags := 0, nameIndex := 27, descriptorIndex := 23, attributes := #[] }, { accessFlags := 0, nameIndex := 29, descriptorIndex := 23, attributes := #[] }, { accessFlags := 0, nameIndex := 22, descriptorIndex := 23, attributes := #[] }, { accessFlags := 0, nameIndex := 11, descriptorIndex := 12, attributes := #[] }])
  fields := #[{ name := "key", type := (.object "java/lang/Object"), accessFlags := 16, slot := 0, constantValue := 0 }, { name := "value", type := (.object "java/lang/Object"), accessFlags := 0, slot := 1, constantValue := 0 }, { name := "left", type := (.object "gatherwick/maps/RedBlackTree$Node"), accessFlags := 0, slot := 2, constantValue := 0 }, { name := "right", type := (.object "gatherwick/maps/RedBlackTree$Node"), accessFlags := 0, slot := 3, constantValue := 0 }, { name := "parent", type := (.object "gatherwick/maps/RedBlackTree$Node"), accessFlags := 0, slot := 4, constantValue := 0 }, { name := "red", type := .boolean, accessFlags := 0, slot := 5, constantValue := 0 }]
  methods := #[k20m0, k20m1]
  instanceTypes := #[(.object "java/lang/Object"), (.object "java/lang/Object"), (.object "gatherwick/maps/RedBlackTree$Node"), (.object "gatherwick/maps/RedBlackTree$Node"), (.object "gatherwick/maps/RedBlackTree$Node"), .boolean]
  staticTypes := #[]
  resolved := Array.replicate 50 none
  statics := none }

def pool21 : Array CpInfo := pool [(2, .class_ 4), (1, u "java/lang/Object"), (0, u "<init>"), (0, u "()V"), (0, .fieldref 8 9), (0, .class_ 10), (0, .nameAndType 11 12), (0, u "gatherwick/maps/RedBlackTree$Node"), (0, u "parent"), (0, u "Lgatherwick/maps/RedBlackTree$Node;"), (0, .fieldref 8 14), (0, .nameAndType 15 12), (0, u "left"), (0, .fieldref 8 17), (0, .nameAndType 18 12), (0, u "right"), (0, .methodref 20 21), (0, .class_ 22), (0, .nameAndType 23 24), (0, u "gatherwick/maps/RedBlackTree"), (0, u "rebalanceAfterLink"), (0, u "(Lgatherwick/maps/RedBlackTree$Node;Lgatherwick/maps/RedBlackTree$Node;)Lgatherwick/maps/RedBlackTree$Node;"), (0, .methodref 20 26), (0, .nameAndType 27 28), (0, u "isRed"), (0, u "(Lgatherwick/maps/RedBlackTree$Node;)Z"), (0, .fieldref 8 30), (0, .nameAndType 31 32), (0, u "red"), (0, u "Z"), (0, .methodref 20 34), (0, .nameAndType 35 24), (0, u "rotateLeft"), (0, .methodref 20 37), (0, .nameAndType 38 24), (0, u "rotateRight"), (0, .methodref 20 40), (0, .nameAndType 41 42), (0, u "replace"), (0, u "(Lgatherwick/maps/RedBlackTree$Node;Lgatherwick/maps/RedBlackTree$Node;Lgatherwick/maps/RedBlackTree$Node;)Lgatherwick/maps/RedBlackTree$Node;"), (9, u "link"), (0, u "(Lgatherwick/maps/RedBlackTree$Node;Lgatherwick/maps/RedBlackTree$Node;Z)Lgatherwick/maps/RedBlackTree$Node;"), (12, .class_ 67), (0, u "gatherwick/maps/RedBlackTree$Builder")] 3

def k21m0 : Method := { name := "<init>", desc := "()V", sig := { parameters := [], returnType := none }, accessFlags := 2, code := none }
def k21c1 : Code := { maxStack := 2, maxLocals := 4, code := prog_57_method_2_code, exceptionTable := #[], attributes := #[] }
def k21m1 : Method := { name := "link", desc := "(Lgatherwick/maps/RedBlackTree$Node;Lgatherwick/maps/RedBlackTree$Node;Z)Lgatherwick/maps/RedBlackTree$Node;", sig := { parameters := [(.object "gatherwick/maps/RedBlackTree$Node"), (.object "gatherwick/maps/RedBlackTree$Node"), .boolean], returnType := some (.object "gatherwick/maps/RedBlackTree$Node") }, accessFlags := 8, code := some k21c1 }
def k21c2 : Code := { maxStack := 2, maxLocals := 5, code := prog_57_method_3_code, exceptionTable := #[], attributes := #[] }
def k21m2 : Method := { name := "rebalanceAfterLink", desc := "(Lgatherwick/maps/RedBlackTree$Node;Lgatherwick/maps/RedBlackTree$Node;)Lgatherwick/maps/RedBlackTree$Node;", sig := { parameters := [(.object "gatherwick/maps/RedBlackTree$Node"), (.object "gatherwick/maps/RedBlackTree$Node")], returnType := some (.object "gatherwick/maps/RedBlackTree$Node") }, accessFlags := 10, code := some k21c2 }
def k21c3 : Code := { maxStack := 1, maxLocals := 1, code := prog_57_method_8_code, exceptionTable := #[], attributes := #[] }
def k21m3 : Method := { name := "isRed", desc := "(Lgatherwick/maps/RedBlackTree$Node;)Z", sig := { parameters := [(.object "gatherwick/maps/RedBlackTree$Node")], returnType := some .boolean }, accessFlags := 10, code := some k21c3 }
def k21c4 : Code := { maxStack := 2, maxLocals := 4, code := prog_57_method_9_code, exceptionTable := #[], attributes := #[] }
def k21m4 : Method := { name := "replace", desc := "(Lgatherwick/maps/RedBlackTree$Node;Lgatherwick/maps/RedBlackTree$Node;Lgatherwick/maps/RedBlackTree$Node;)Lgatherwick/maps/RedBlackTree$Node;", sig := { parameters := [(.object "gatherwick/maps/RedBlackTree$Node"), (.object "gatherwick/maps/RedBlackTree$Node"), (.object "gatherwick/maps/RedBlackTree$Node")], returnType := some (.object "gatherwick/maps/RedBlackTree$Node") }, accessFlags := 10, code := some k21c4 }
def k21c5 : Code := { maxStack := 3, maxLocals := 3, code := prog_57_method_10_code, exceptionTable := #[], attributes := #[] }
def k21m5 : Method := { name := "rotateLeft", desc := "(Lgatherwick/maps/RedBlackTree$Node;Lgatherwick/maps/RedBlackTree$Node;)Lgatherwick/maps/RedBlackTree$Node;", sig := { parameters := [(.object "gatherwick/maps/RedBlackTree$Node"), (.object "gatherwick/maps/RedBlackTree$Node")], returnType := some (.object "gatherwick/maps/RedBlackTree$Node") }, accessFlags := 10, code := some k21c5 }
def k21c6 : Code := { maxStack := 3, maxLocals := 3, code := prog_57_method_11_code, exceptionTable := #[], attributes := #[] }
def k21m6 : Method := { name := "rotateRight", desc := "(Lgatherwick/maps/RedBlackTree$Node;Lgatherwick/maps/RedBlackTree$Node;)Lgatherwick/maps/RedBlackTree$Node;", sig := { parameters := [(.object "gatherwick/maps/RedBlackTree$Node"), (.object "gatherwick/maps/RedBlackTree$Node")], returnType := some (.object "gatherwick/maps/RedBlackTree$Node") }, accessFlags := 10, code := some k21c6 }
/-- gatherwick/maps/RedBlackTree -/
def k21 : Class := { plain "gatherwick/maps/RedBlackTree" (some 0) with
  accessFlags := 48
  interfaces := #[]
  cf := some (fileOf pool21 20 #[.nestMembers #[66, 8]] #[{ accessFlags := 2, nameIndex := 5, descriptorIndex := 6, attributes := #[] }, { accessFlags := 8, nameIndex := 52, descriptorIndex := 53, attributes := #[] }, { accessFlags := 10, nameIndex := 23, descriptorIndex := 24, attributes := #[] }, { accessFlags := 10, nameIndex := 27, descriptorIndex := 28, attributes := #[] }, { accessFlags := 10, nameIndex := 41, descriptorIndex := 42, attributes := #[] }, { accessFlags := 10, nameIndex := 35, descriptorIndex := 24, attributes := #[] }, { accessFlags := 10, nameIndex := 38, descriptorIndex := 24, attributes := #[] }] 48 2 #[] #[])
  fields := #[]
  methods := #[k21m0, k21m1, k21m2, k21m3, k21m4, k21m5, k21m6]
  instanceTypes := #[]
  staticTypes := #[]
  resolved := Array.replicate 71 none
  statics := none }

/-- the primitive byte -/
def k22 : Class := { plain "byte" none with kind := .primitive 'B', accessFlags := 0x411 }
/-- [B -/
def k23 : Class := { plain "[B" (some 0) with kind := .array 22 .byte, interfaces := #[7, 8], accessFlags := 1041 }

/-- the primitive int -/
def k24 : Class := { plain "int" none with kind := .primitive 'I', accessFlags := 0x411 }
/-- [I -/
def k25 : Class := { plain "[I" (some 0) with kind := .array 24 .int, interfaces := #[7, 8], accessFlags := 1041 }

/-- [Ljava/lang/Integer; -/
def k26 : Class := { plain "[Ljava/lang/Integer;" (some 0) with kind := .array 14 (.object "java/lang/Integer"), interfaces := #[7, 8], accessFlags := 1041 }

def heap : Heap := #[{ cls := 15, slots := #[.int 0, .int 127, .ref 1, .null, .int 0], vm := .statics 15 },
  { cls := 26, slots := #[.ref 2, .ref 3, .ref 4, .ref 5, .ref 6, .ref 7, .ref 8, .ref 9, .ref 10, .ref 11, .ref 12, .ref 13, .ref 14, .ref 15, .ref 16, .ref 17, .ref 18, .ref 19, .ref 20, .ref 21, .ref 22, .ref 23, .ref 24, .ref 25, .ref 26, .ref 27, .ref 28, .ref 29, .ref 30, .ref 31, .ref 32, .ref 33, .ref 34, .ref 35, .ref 36, .ref 37, .ref 38, .ref 39, .ref 40, .ref 41, .ref 42, .ref 43, .ref 44, .ref 45, .ref 46, .ref 47, .ref 48, .ref 49, .ref 50, .ref 51, .ref 52, .ref 53, .ref 54, .ref 55, .ref 56, .ref 57, .ref 58, .ref 59, .ref 60, .ref 61, .ref 62, .ref 63, .ref 64, .ref 65, .ref 66, .ref 67, .ref 68, .ref 69, .ref 70, .ref 71, .ref 72, .ref 73, .ref 74, .ref 75, .ref 76, .ref 77, .ref 78, .ref 79, .ref 80, .ref 81, .ref 82, .ref 83, .ref 84, .ref 85, .ref 86, .ref 87, .ref 88, .ref 89, .ref 90, .ref 91, .ref 92, .ref 93, .ref 94, .ref 95, .ref 96, .ref 97, .ref 98, .ref 99, .ref 100, .ref 101, .ref 102, .ref 103, .ref 104, .ref 105, .ref 106, .ref 107, .ref 108, .ref 109, .ref 110, .ref 111, .ref 112, .ref 113, .ref 114, .ref 115, .ref 116, .ref 117, .ref 118, .ref 119, .ref 120, .ref 121, .ref 122, .ref 123, .ref 124, .ref 125, .ref 126, .ref 127, .ref 128, .ref 129, .ref 130, .ref 131, .ref 132, .ref 133, .ref 134, .ref 135, .ref 136, .ref 137, .ref 138, .ref 139, .ref 140, .ref 141, .ref 142, .ref 143, .ref 144, .ref 145, .ref 146, .ref 147, .ref 148, .ref 149, .ref 150, .ref 151, .ref 152, .ref 153, .ref 154, .ref 155, .ref 156, .ref 157, .ref 158, .ref 159, .ref 160, .ref 161, .ref 162, .ref 163, .ref 164, .ref 165, .ref 166, .ref 167, .ref 168, .ref 169, .ref 170, .ref 171, .ref 172, .ref 173, .ref 174, .ref 175, .ref 176, .ref 177, .ref 178, .ref 179, .ref 180, .ref 181, .ref 182, .ref 183, .ref 184, .ref 185, .ref 186, .ref 187, .ref 188, .ref 189, .ref 190, .ref 191, .ref 192, .ref 193, .ref 194, .ref 195, .ref 196, .ref 197, .ref 198, .ref 199, .ref 200, .ref 201, .ref 202, .ref 203, .ref 204, .ref 205, .ref 206, .ref 207, .ref 208, .ref 209, .ref 210, .ref 211, .ref 212, .ref 213, .ref 214, .ref 215, .ref 216, .ref 217, .ref 218, .ref 219, .ref 220, .ref 221, .ref 222, .ref 223, .ref 224, .ref 225, .ref 226, .ref 227, .ref 228, .ref 229, .ref 230, .ref 231, .ref 232, .ref 233, .ref 234, .ref 235, .ref 236, .ref 237, .ref 238, .ref 239, .ref 240, .ref 241, .ref 242, .ref 243, .ref 244, .ref 245, .ref 246, .ref 247, .ref 248, .ref 249, .ref 250, .ref 251, .ref 252, .ref 253, .ref 254, .ref 255, .ref 256, .ref 257], vm := .none },
  { cls := 14, slots := #[.int (-128)], vm := .none },
  { cls := 14, slots := #[.int (-127)], vm := .none },
  { cls := 14, slots := #[.int (-126)], vm := .none },
  { cls := 14, slots := #[.int (-125)], vm := .none },
  { cls := 14, slots := #[.int (-124)], vm := .none },
  { cls := 14, slots := #[.int (-123)], vm := .none },
  { cls := 14, slots := #[.int (-122)], vm := .none },
  { cls := 14, slots := #[.int (-121)], vm := .none },
  { cls := 14, slots := #[.int (-120)], vm := .none },
  { cls := 14, slots := #[.int (-119)], vm := .none },
  { cls := 14, slots := #[.int (-118)], vm := .none },
  { cls := 14, slots := #[.int (-117)], vm := .none },
  { cls := 14, slots := #[.int (-116)], vm := .none },
  { cls := 14, slots := #[.int (-115)], vm := .none },
  { cls := 14, slots := #[.int (-114)], vm := .none },
  { cls := 14, slots := #[.int (-113)], vm := .none },
  { cls := 14, slots := #[.int (-112)], vm := .none },
  { cls := 14, slots := #[.int (-111)], vm := .none },
  { cls := 14, slots := #[.int (-110)], vm := .none },
  { cls := 14, slots := #[.int (-109)], vm := .none },
  { cls := 14, slots := #[.int (-108)], vm := .none },
  { cls := 14, slots := #[.int (-107)], vm := .none },
  { cls := 14, slots := #[.int (-106)], vm := .none },
  { cls := 14, slots := #[.int (-105)], vm := .none },
  { cls := 14, slots := #[.int (-104)], vm := .none },
  { cls := 14, slots := #[.int (-103)], vm := .none },
  { cls := 14, slots := #[.int (-102)], vm := .none },
  { cls := 14, slots := #[.int (-101)], vm := .none },
  { cls := 14, slots := #[.int (-100)], vm := .none },
  { cls := 14, slots := #[.int (-99)], vm := .none },
  { cls := 14, slots := #[.int (-98)], vm := .none },
  { cls := 14, slots := #[.int (-97)], vm := .none },
  { cls := 14, slots := #[.int (-96)], vm := .none },
  { cls := 14, slots := #[.int (-95)], vm := .none },
  { cls := 14, slots := #[.int (-94)], vm := .none },
  { cls := 14, slots := #[.int (-93)], vm := .none },
  { cls := 14, slots := #[.int (-92)], vm := .none },
  { cls := 14, slots := #[.int (-91)], vm := .none },
  { cls := 14, slots := #[.int (-90)], vm := .none },
  { cls := 14, slots := #[.int (-89)], vm := .none },
  { cls := 14, slots := #[.int (-88)], vm := .none },
  { cls := 14, slots := #[.int (-87)], vm := .none },
  { cls := 14, slots := #[.int (-86)], vm := .none },
  { cls := 14, slots := #[.int (-85)], vm := .none },
  { cls := 14, slots := #[.int (-84)], vm := .none },
  { cls := 14, slots := #[.int (-83)], vm := .none },
  { cls := 14, slots := #[.int (-82)], vm := .none },
  { cls := 14, slots := #[.int (-81)], vm := .none },
  { cls := 14, slots := #[.int (-80)], vm := .none },
  { cls := 14, slots := #[.int (-79)], vm := .none },
  { cls := 14, slots := #[.int (-78)], vm := .none },
  { cls := 14, slots := #[.int (-77)], vm := .none },
  { cls := 14, slots := #[.int (-76)], vm := .none },
  { cls := 14, slots := #[.int (-75)], vm := .none },
  { cls := 14, slots := #[.int (-74)], vm := .none },
  { cls := 14, slots := #[.int (-73)], vm := .none },
  { cls := 14, slots := #[.int (-72)], vm := .none },
  { cls := 14, slots := #[.int (-71)], vm := .none },
  { cls := 14, slots := #[.int (-70)], vm := .none },
  { cls := 14, slots := #[.int (-69)], vm := .none },
  { cls := 14, slots := #[.int (-68)], vm := .none },
  { cls := 14, slots := #[.int (-67)], vm := .none },
  { cls := 14, slots := #[.int (-66)], vm := .none },
  { cls := 14, slots := #[.int (-65)], vm := .none },
  { cls := 14, slots := #[.int (-64)], vm := .none },
  { cls := 14, slots := #[.int (-63)], vm := .none },
  { cls := 14, slots := #[.int (-62)], vm := .none },
  { cls := 14, slots := #[.int (-61)], vm := .none },
  { cls := 14, slots := #[.int (-60)], vm := .none },
  { cls := 14, slots := #[.int (-59)], vm := .none },
  { cls := 14, slots := #[.int (-58)], vm := .none },
  { cls := 14, slots := #[.int (-57)], vm := .none },
  { cls := 14, slots := #[.int (-56)], vm := .none },
  { cls := 14, slots := #[.int (-55)], vm := .none },
  { cls := 14, slots := #[.int (-54)], vm := .none },
  { cls := 14, slots := #[.int (-53)], vm := .none },
  { cls := 14, slots := #[.int (-52)], vm := .none },
  { cls := 14, slots := #[.int (-51)], vm := .none },
  { cls := 14, slots := #[.int (-50)], vm := .none },
  { cls := 14, slots := #[.int (-49)], vm := .none },
  { cls := 14, slots := #[.int (-48)], vm := .none },
  { cls := 14, slots := #[.int (-47)], vm := .none },
  { cls := 14, slots := #[.int (-46)], vm := .none },
  { cls := 14, slots := #[.int (-45)], vm := .none },
  { cls := 14, slots := #[.int (-44)], vm := .none },
  { cls := 14, slots := #[.int (-43)], vm := .none },
  { cls := 14, slots := #[.int (-42)], vm := .none },
  { cls := 14, slots := #[.int (-41)], vm := .none },
  { cls := 14, slots := #[.int (-40)], vm := .none },
  { cls := 14, slots := #[.int (-39)], vm := .none },
  { cls := 14, slots := #[.int (-38)], vm := .none },
  { cls := 14, slots := #[.int (-37)], vm := .none },
  { cls := 14, slots := #[.int (-36)], vm := .none },
  { cls := 14, slots := #[.int (-35)], vm := .none },
  { cls := 14, slots := #[.int (-34)], vm := .none },
  { cls := 14, slots := #[.int (-33)], vm := .none },
  { cls := 14, slots := #[.int (-32)], vm := .none },
  { cls := 14, slots := #[.int (-31)], vm := .none },
  { cls := 14, slots := #[.int (-30)], vm := .none },
  { cls := 14, slots := #[.int (-29)], vm := .none },
  { cls := 14, slots := #[.int (-28)], vm := .none },
  { cls := 14, slots := #[.int (-27)], vm := .none },
  { cls := 14, slots := #[.int (-26)], vm := .none },
  { cls := 14, slots := #[.int (-25)], vm := .none },
  { cls := 14, slots := #[.int (-24)], vm := .none },
  { cls := 14, slots := #[.int (-23)], vm := .none },
  { cls := 14, slots := #[.int (-22)], vm := .none },
  { cls := 14, slots := #[.int (-21)], vm := .none },
  { cls := 14, slots := #[.int (-20)], vm := .none },
  { cls := 14, slots := #[.int (-19)], vm := .none },
  { cls := 14, slots := #[.int (-18)], vm := .none },
  { cls := 14, slots := #[.int (-17)], vm := .none },
  { cls := 14, slots := #[.int (-16)], vm := .none },
  { cls := 14, slots := #[.int (-15)], vm := .none },
  { cls := 14, slots := #[.int (-14)], vm := .none },
  { cls := 14, slots := #[.int (-13)], vm := .none },
  { cls := 14, slots := #[.int (-12)], vm := .none },
  { cls := 14, slots := #[.int (-11)], vm := .none },
  { cls := 14, slots := #[.int (-10)], vm := .none },
  { cls := 14, slots := #[.int (-9)], vm := .none },
  { cls := 14, slots := #[.int (-8)], vm := .none },
  { cls := 14, slots := #[.int (-7)], vm := .none },
  { cls := 14, slots := #[.int (-6)], vm := .none },
  { cls := 14, slots := #[.int (-5)], vm := .none },
  { cls := 14, slots := #[.int (-4)], vm := .none },
  { cls := 14, slots := #[.int (-3)], vm := .none },
  { cls := 14, slots := #[.int (-2)], vm := .none },
  { cls := 14, slots := #[.int (-1)], vm := .none },
  { cls := 14, slots := #[.int 0], vm := .none },
  { cls := 14, slots := #[.int 1], vm := .none },
  { cls := 14, slots := #[.int 2], vm := .none },
  { cls := 14, slots := #[.int 3], vm := .none },
  { cls := 14, slots := #[.int 4], vm := .none },
  { cls := 14, slots := #[.int 5], vm := .none },
  { cls := 14, slots := #[.int 6], vm := .none },
  { cls := 14, slots := #[.int 7], vm := .none },
  { cls := 14, slots := #[.int 8], vm := .none },
  { cls := 14, slots := #[.int 9], vm := .none },
  { cls := 14, slots := #[.int 10], vm := .none },
  { cls := 14, slots := #[.int 11], vm := .none },
  { cls := 14, slots := #[.int 12], vm := .none },
  { cls := 14, slots := #[.int 13], vm := .none },
  { cls := 14, slots := #[.int 14], vm := .none },
  { cls := 14, slots := #[.int 15], vm := .none },
  { cls := 14, slots := #[.int 16], vm := .none },
  { cls := 14, slots := #[.int 17], vm := .none },
  { cls := 14, slots := #[.int 18], vm := .none },
  { cls := 14, slots := #[.int 19], vm := .none },
  { cls := 14, slots := #[.int 20], vm := .none },
  { cls := 14, slots := #[.int 21], vm := .none },
  { cls := 14, slots := #[.int 22], vm := .none },
  { cls := 14, slots := #[.int 23], vm := .none },
  { cls := 14, slots := #[.int 24], vm := .none },
  { cls := 14, slots := #[.int 25], vm := .none },
  { cls := 14, slots := #[.int 26], vm := .none },
  { cls := 14, slots := #[.int 27], vm := .none },
  { cls := 14, slots := #[.int 28], vm := .none },
  { cls := 14, slots := #[.int 29], vm := .none },
  { cls := 14, slots := #[.int 30], vm := .none },
  { cls := 14, slots := #[.int 31], vm := .none },
  { cls := 14, slots := #[.int 32], vm := .none },
  { cls := 14, slots := #[.int 33], vm := .none },
  { cls := 14, slots := #[.int 34], vm := .none },
  { cls := 14, slots := #[.int 35], vm := .none },
  { cls := 14, slots := #[.int 36], vm := .none },
  { cls := 14, slots := #[.int 37], vm := .none },
  { cls := 14, slots := #[.int 38], vm := .none },
  { cls := 14, slots := #[.int 39], vm := .none },
  { cls := 14, slots := #[.int 40], vm := .none },
  { cls := 14, slots := #[.int 41], vm := .none },
  { cls := 14, slots := #[.int 42], vm := .none },
  { cls := 14, slots := #[.int 43], vm := .none },
  { cls := 14, slots := #[.int 44], vm := .none },
  { cls := 14, slots := #[.int 45], vm := .none },
  { cls := 14, slots := #[.int 46], vm := .none },
  { cls := 14, slots := #[.int 47], vm := .none },
  { cls := 14, slots := #[.int 48], vm := .none },
  { cls := 14, slots := #[.int 49], vm := .none },
  { cls := 14, slots := #[.int 50], vm := .none },
  { cls := 14, slots := #[.int 51], vm := .none },
  { cls := 14, slots := #[.int 52], vm := .none },
  { cls := 14, slots := #[.int 53], vm := .none },
  { cls := 14, slots := #[.int 54], vm := .none },
  { cls := 14, slots := #[.int 55], vm := .none },
  { cls := 14, slots := #[.int 56], vm := .none },
  { cls := 14, slots := #[.int 57], vm := .none },
  { cls := 14, slots := #[.int 58], vm := .none },
  { cls := 14, slots := #[.int 59], vm := .none },
  { cls := 14, slots := #[.int 60], vm := .none },
  { cls := 14, slots := #[.int 61], vm := .none },
  { cls := 14, slots := #[.int 62], vm := .none },
  { cls := 14, slots := #[.int 63], vm := .none },
  { cls := 14, slots := #[.int 64], vm := .none },
  { cls := 14, slots := #[.int 65], vm := .none },
  { cls := 14, slots := #[.int 66], vm := .none },
  { cls := 14, slots := #[.int 67], vm := .none },
  { cls := 14, slots := #[.int 68], vm := .none },
  { cls := 14, slots := #[.int 69], vm := .none },
  { cls := 14, slots := #[.int 70], vm := .none },
  { cls := 14, slots := #[.int 71], vm := .none },
  { cls := 14, slots := #[.int 72], vm := .none },
  { cls := 14, slots := #[.int 73], vm := .none },
  { cls := 14, slots := #[.int 74], vm := .none },
  { cls := 14, slots := #[.int 75], vm := .none },
  { cls := 14, slots := #[.int 76], vm := .none },
  { cls := 14, slots := #[.int 77], vm := .none },
  { cls := 14, slots := #[.int 78], vm := .none },
  { cls := 14, slots := #[.int 79], vm := .none },
  { cls := 14, slots := #[.int 80], vm := .none },
  { cls := 14, slots := #[.int 81], vm := .none },
  { cls := 14, slots := #[.int 82], vm := .none },
  { cls := 14, slots := #[.int 83], vm := .none },
  { cls := 14, slots := #[.int 84], vm := .none },
  { cls := 14, slots := #[.int 85], vm := .none },
  { cls := 14, slots := #[.int 86], vm := .none },
  { cls := 14, slots := #[.int 87], vm := .none },
  { cls := 14, slots := #[.int 88], vm := .none },
  { cls := 14, slots := #[.int 89], vm := .none },
  { cls := 14, slots := #[.int 90], vm := .none },
  { cls := 14, slots := #[.int 91], vm := .none },
  { cls := 14, slots := #[.int 92], vm := .none },
  { cls := 14, slots := #[.int 93], vm := .none },
  { cls := 14, slots := #[.int 94], vm := .none },
  { cls := 14, slots := #[.int 95], vm := .none },
  { cls := 14, slots := #[.int 96], vm := .none },
  { cls := 14, slots := #[.int 97], vm := .none },
  { cls := 14, slots := #[.int 98], vm := .none },
  { cls := 14, slots := #[.int 99], vm := .none },
  { cls := 14, slots := #[.int 100], vm := .none },
  { cls := 14, slots := #[.int 101], vm := .none },
  { cls := 14, slots := #[.int 102], vm := .none },
  { cls := 14, slots := #[.int 103], vm := .none },
  { cls := 14, slots := #[.int 104], vm := .none },
  { cls := 14, slots := #[.int 105], vm := .none },
  { cls := 14, slots := #[.int 106], vm := .none },
  { cls := 14, slots := #[.int 107], vm := .none },
  { cls := 14, slots := #[.int 108], vm := .none },
  { cls := 14, slots := #[.int 109], vm := .none },
  { cls := 14, slots := #[.int 110], vm := .none },
  { cls := 14, slots := #[.int 111], vm := .none },
  { cls := 14, slots := #[.int 112], vm := .none },
  { cls := 14, slots := #[.int 113], vm := .none },
  { cls := 14, slots := #[.int 114], vm := .none },
  { cls := 14, slots := #[.int 115], vm := .none },
  { cls := 14, slots := #[.int 116], vm := .none },
  { cls := 14, slots := #[.int 117], vm := .none },
  { cls := 14, slots := #[.int 118], vm := .none },
  { cls := 14, slots := #[.int 119], vm := .none },
  { cls := 14, slots := #[.int 120], vm := .none },
  { cls := 14, slots := #[.int 121], vm := .none },
  { cls := 14, slots := #[.int 122], vm := .none },
  { cls := 14, slots := #[.int 123], vm := .none },
  { cls := 14, slots := #[.int 124], vm := .none },
  { cls := 14, slots := #[.int 125], vm := .none },
  { cls := 14, slots := #[.int 126], vm := .none },
  { cls := 14, slots := #[.int 127], vm := .none }]
def classes : Array Class := #[k0, k1, k2, k3, k4, k5, k6, k7, k8, k9, k10, k11, k12, k13, k14, k15, k16, k17, k18, k19, k20, k21, k22, k23, k24, k25, k26]
def interned : List (Array UInt16 × Addr) := []
def slotsUsed : Nat := 517
def theMethod : MethodId := ⟨1, 1⟩
def args0 : Array Value := #[.int 5, .int 7, .int 3, .int 2, .int 1, .int 4]
def aboutOver (below : List Frame) : State where
  vm := { classes := classes, interned := interned.toArray }
  heap := heap
  slotsUsed := slotsUsed
  threads := #[{ frames := .invoking theMethod args0 :: below }]
def below0 : List Frame := [.native { method := ⟨0, 0⟩, args := #[] }]
def about1 : State := aboutOver below0
def p0 : Program := .bare "" "" ""
def e0 : Env := launch0.env 0 0 0
theorem w_frames : about1.frames = Frame.invoking theMethod args0 :: below0 := rfl
set_option maxRecDepth 65536 in
theorem w_args : argsFit about1.vm theMethod args0 = true := by decide +kernel
set_option maxRecDepth 65536 in
theorem w_heap : heapFits about1 = true := by decide +kernel
set_option maxRecDepth 65536 in
theorem w_runnable : about1.curStatus? = some .runnable := by decide +kernel
set_option maxRecDepth 65536 in
theorem w_alone : about1.alone = true := by decide +kernel
set_option maxRecDepth 65536 in
theorem w_named : about1.methodNamed? x = some theMethod := by decide +kernel
set_option maxRecDepth 65536 in
theorem w_hears : about1.hears theMethod below0 = true := by decide +kernel
set_option maxRecDepth 65536 in
theorem w_ripe : about1.ripe theMethod args0 below0 = true := by decide +kernel
theorem w_running : about1.status = .running := rfl
set_option maxRecDepth 65536 in
theorem w_room : about1.hasRoom e0.platform room_1 = true :=
  launch0.hasRoom_least _ room_1 (by decide +kernel) (by decide +kernel) (by decide +kernel) (by decide +kernel) (by decide +kernel) (by decide +kernel)
theorem allAtoms_all (ts : List Jvm.Cond) (a : Array Jvm.Value) (st : Jvm.State) : (allAtoms ts).before a st = ts.all (fun c => c.before a st) := by
  induction ts with
  | nil => rfl
  | cons c t ih =>
    show (Jvm.Cond.and c (allAtoms t)).before a st = _
    rw [Jvm.Cond.before_and, ih, List.all_cons]
def words1 : List Jvm.Cond := Jvm.Cond.code x code maxLocals ret :: tables_1
/-- a 'code' word, met by the world's own term for the bytes: nothing is compared byte by byte -/
theorem code_word {y : MethodName} {bytes : ByteArray} {mx : Nat} {rt : Option FieldType} {a : Array Value} {s : State} {m : MethodId} {meth : Method} {c : Code} (h1 : s.methodNamed? y = some m) (h2 : s.vm.method? m = some meth) (h3 : meth.code = some c) (h4 : c.code = bytes)
    (h5 : (c.maxLocals == mx && c.exceptionTable.isEmpty && decide (c.maxStack ≤ mostOperands) && decide (meth.sig.returnType = rt) && !meth.locks && decide (parseMethodDescriptor y.desc = some meth.sig)) = true) : (Jvm.Cond.code y bytes mx rt).before a s = true := by
  simp only [Bool.and_eq_true, beq_iff_eq, Bool.not_eq_true', decide_eq_true_eq] at h5
  obtain ⟨⟨⟨⟨⟨g1, g2⟩, g3⟩, g4⟩, g5⟩, g6⟩ := h5
  simp [Cond.before, Cond.holds, Cond.value, h1, h2, h3, h4, g1, g2, g3, g4, g5, g6]
def isCode : Jvm.Cond → Bool
  | .code _ _ _ _ => true
  | _ => false
theorem all_split {L : List Jvm.Cond} {P : Jvm.Cond → Bool} (h1 : L.all (fun c => isCode c || P c) = true) (h2 : ∀ c ∈ L.filter isCode, P c = true) : L.all P = true := by
  refine List.all_eq_true.mpr fun c hc => ?_
  have h := List.all_eq_true.mp h1 c hc
  rcases Bool.eq_false_or_eq_true (isCode c) with hi | hi
  · exact h2 c (List.mem_filter.mpr ⟨hc, hi⟩)
  · simpa [hi] using h
set_option maxRecDepth 65536 in
theorem w_c0 : (Jvm.Cond.code x code maxLocals ret).before args0 about1 = true := code_word (m := ⟨1, 1⟩) (meth := k1m1) (c := k1c1) (by decide +kernel) rfl rfl rfl (by decide +kernel)
set_option maxRecDepth 65536 in
theorem w_c1 : (Jvm.Cond.code ({ cls := "gatherwick/maps/GwTreeMap", name := "<init>", desc := "()V" } : Jvm.MethodName) prog_46_method_1_code (1 : Nat) (Option.none : Option Jvm.ClassFile.FieldType)).before args0 about1 = true := code_word (m := ⟨9, 0⟩) (meth := k9m0) (c := k9c0) (by decide +kernel) rfl rfl rfl (by decide +kernel)
set_option maxRecDepth 65536 in
theorem w_c2 : (Jvm.Cond.code ({ cls := "gatherwick/core/BaseMap", name := "<init>", desc := "()V" } : Jvm.MethodName) prog_20_method_1_code (1 : Nat) (Option.none : Option Jvm.ClassFile.FieldType)).before args0 about1 = true := code_word (m := ⟨3, 0⟩) (meth := k3m0) (c := k3c0) (by decide +kernel) rfl rfl rfl (by decide +kernel)
set_option maxRecDepth 65536 in
theorem w_c3 : (Jvm.Cond.code ({ cls := "java/lang/Object", name := "<init>", desc := "()V" } : Jvm.MethodName) object_method_1_code (1 : Nat) (Option.none : Option Jvm.ClassFile.FieldType)).before args0 about1 = true := code_word (m := ⟨0, 0⟩) (meth := k0m0) (c := k0c0) (by decide +kernel) rfl rfl rfl (by decide +kernel)
set_option maxRecDepth 65536 in
theorem w_c4 : (Jvm.Cond.code ({ cls := "gatherwick/maps/GwTreeMap", name := "clear", desc := "()V" } : Jvm.MethodName) prog_46_method_22_code (1 : Nat) (Option.none : Option Jvm.ClassFile.FieldType)).before args0 about1 = true := code_word (m := ⟨9, 4⟩) (meth := k9m4) (c := k9c4) (by decide +kernel) rfl rfl rfl (by decide +kernel)
set_option maxRecDepth 65536 in
theorem w_c5 : (Jvm.Cond.code ({ cls := "gatherwick/maps/GwTreeMap", name := "size", desc := "()I" } : Jvm.MethodName) prog_46_method_9_code (1 : Nat) (Option.some Jvm.ClassFile.FieldType.int)).before args0 about1 = true := code_word (m := ⟨9, 1⟩) (meth := k9m1) (c := k9c1) (by decide +kernel) rfl rfl rfl (by decide +kernel)
set_option maxRecDepth 65536 in
theorem w_c6 : (Jvm.Cond.code ({ cls := "java/lang/Integer", name := "valueOf", desc := "(I)Ljava/lang/Integer;" } : Jvm.MethodName) jdk_33_method_22_code (1 : Nat) (Option.some (Jvm.ClassFile.FieldType.object "java/lang/Integer"))).before args0 about1 = true := code_word (m := ⟨14, 0⟩) (meth := k14m0) (c := k14c0) (by decide +kernel) rfl rfl rfl (by decide +kernel)
set_option maxRecDepth 65536 in
theorem w_c7 : (Jvm.Cond.code ({ cls := "gatherwick/maps/GwTreeMap", name := "get", desc := "(Ljava/lang/Object;)Ljava/lang/Object;" } : Jvm.MethodName) prog_46_method_12_code (2 : Nat) (Option.some (Jvm.ClassFile.FieldType.object "java/lang/Object"))).before args0 about1 = true := code_word (m := ⟨9, 2⟩) (meth := k9m2) (c := k9c2) (by decide +kernel) rfl rfl rfl (by decide +kernel)
set_option maxRecDepth 65536 in
theorem w_c8 : (Jvm.Cond.code ({ cls := "gatherwick/maps/GwTreeMap", name := "getIn", desc := "(Lgatherwick/maps/GwTreeMap$SubMap;Ljava/lang/Object;)Ljava/lang/Object;" } : Jvm.MethodName) prog_46_method_67_code (4 : Nat) (Option.some (Jvm.ClassFile.FieldType.object "java/lang/Object"))).before args0 about1 = true := code_word (m := ⟨9, 5⟩) (meth := k9m5) (c := k9c5) (by decide +kernel) rfl rfl rfl (by decide +kernel)
set_option maxRecDepth 65536 in
theorem w_c9 : (Jvm.Cond.code ({ cls := "gatherwick/maps/GwTreeMap", name := "find", desc := "(Lgatherwick/maps/GwTreeMap$SubMap;Ljava/lang/Object;)Lgatherwick/maps/RedBlackTree$Node;" } : Jvm.MethodName) prog_46_method_79_code (3 : Nat) (Option.some (Jvm.ClassFile.FieldType.object "gatherwick/maps/RedBlackTree$Node"))).before args0 about1 = true := code_word (m := ⟨9, 7⟩) (meth := k9m7) (c := k9c7) (by decide +kernel) rfl rfl rfl (by decide +kernel)
set_option maxRecDepth 65536 in
theorem w_c10 : (Jvm.Cond.code ({ cls := "gatherwick/maps/GwTreeMap", name := "search", desc := "(Ljava/lang/Object;Lgatherwick/maps/GwTreeMap$Place;Z)Lgatherwick/maps/RedBlackTree$Node;" } : Jvm.MethodName) prog_46_method_86_code (7 : Nat) (Option.some (Jvm.ClassFile.FieldType.object "gatherwick/maps/RedBlackTree$Node"))).before args0 about1 = true := code_word (m := ⟨9, 11⟩) (meth := k9m11) (c := k9c11) (by decide +kernel) rfl rfl rfl (by decide +kernel)
set_option maxRecDepth 65536 in
theorem w_c11 : (Jvm.Cond.code ({ cls := "gatherwick/maps/GwTreeMap", name := "compare", desc := "(Ljava/lang/Object;Ljava/lang/Object;)I" } : Jvm.MethodName) prog_46_method_85_code (3 : Nat) (Option.some Jvm.ClassFile.FieldType.int)).before args0 about1 = true := code_word (m := ⟨9, 10⟩) (meth := k9m10) (c := k9c10) (by decide +kernel) rfl rfl rfl (by decide +kernel)
set_option maxRecDepth 65536 in
theorem w_c12 : (Jvm.Cond.code ({ cls := "gatherwick/core/Sorting", name := "compare", desc := "(Ljava/util/Comparator;Ljava/lang/Object;Ljava/lang/Object;)I" } : Jvm.MethodName) prog_23_method_3_code (3 : Nat) (Option.some Jvm.ClassFile.FieldType.int)).before args0 about1 = true := code_word (m := ⟨16, 1⟩) (meth := k16m1) (c := k16c1) (by decide +kernel) rfl rfl rfl (by decide +kernel)
set_option maxRecDepth 65536 in
theorem w_c13 : (Jvm.Cond.code ({ cls := "java/lang/Integer", name := "compareTo", desc := "(Ljava/lang/Object;)I" } : Jvm.MethodName) jdk_33_method_63_code (2 : Nat) (Option.some Jvm.ClassFile.FieldType.int)).before args0 about1 = true := code_word (m := ⟨14, 5⟩) (meth := k14m5) (c := k14c5) (by decide +kernel) rfl rfl rfl (by decide +kernel)
set_option maxRecDepth 65536 in
theorem w_c14 : (Jvm.Cond.code ({ cls := "java/lang/Integer", name := "compareTo", desc := "(Ljava/lang/Integer;)I" } : Jvm.MethodName) jdk_33_method_39_code (2 : Nat) (Option.some Jvm.ClassFile.FieldType.int)).before args0 about1 = true := code_word (m := ⟨14, 3⟩) (meth := k14m3) (c := k14c3) (by decide +kernel) rfl rfl rfl (by decide +kernel)
set_option maxRecDepth 65536 in
theorem w_c15 : (Jvm.Cond.code ({ cls := "java/lang/Integer", name := "compare", desc := "(II)I" } : Jvm.MethodName) jdk_33_method_40_code (2 : Nat) (Option.some Jvm.ClassFile.FieldType.int)).before args0 about1 = true := code_word (m := ⟨14, 4⟩) (meth := k14m4) (c := k14c4) (by decide +kernel) rfl rfl rfl (by decide +kernel)
set_option maxRecDepth 65536 in
theorem w_c16 : (Jvm.Cond.code ({ cls := "gatherwick/maps/GwTreeMap", name := "put", desc := "(Ljava/lang/Object;Ljava/lang/Object;)Ljava/lang/Object;" } : Jvm.MethodName) prog_46_method_16_code (3 : Nat) (Option.some (Jvm.ClassFile.FieldType.object "java/lang/Object"))).before args0 about1 = true := code_word (m := ⟨9, 3⟩) (meth := k9m3) (c := k9c3) (by decide +kernel) rfl rfl rfl (by decide +kernel)
set_option maxRecDepth 65536 in
theorem w_c17 : (Jvm.Cond.code ({ cls := "gatherwick/maps/GwTreeMap", name := "putIn", desc := "(Lgatherwick/maps/GwTreeMap$SubMap;Ljava/lang/Object;Ljava/lang/Object;)Ljava/lang/Object;" } : Jvm.MethodName) prog_46_method_69_code (5 : Nat) (Option.some (Jvm.ClassFile.FieldType.object "java/lang/Object"))).before args0 about1 = true := code_word (m := ⟨9, 6⟩) (meth := k9m6) (c := k9c6) (by decide +kernel) rfl rfl rfl (by decide +kernel)
set_option maxRecDepth 65536 in
theorem w_c18 : (Jvm.Cond.code ({ cls := "gatherwick/maps/GwTreeMap", name := "locateToAdd", desc := "(Lgatherwick/maps/GwTreeMap$SubMap;Ljava/lang/Object;)Lgatherwick/maps/GwTreeMap$Place;" } : Jvm.MethodName) prog_46_method_81_code (4 : Nat) (Option.some (Jvm.ClassFile.FieldType.object "gatherwick/maps/GwTreeMap$Place"))).before args0 about1 = true := code_word (m := ⟨9, 9⟩) (meth := k9m9) (c := k9c9) (by decide +kernel) rfl rfl rfl (by decide +kernel)
set_option maxRecDepth 65536 in
theorem w_c19 : (Jvm.Cond.code ({ cls := "gatherwick/maps/GwTreeMap", name := "locate", desc := "(Lgatherwick/maps/GwTreeMap$SubMap;Ljava/lang/Object;)Lgatherwick/maps/GwTreeMap$Place;" } : Jvm.MethodName) prog_46_method_80_code (4 : Nat) (Option.some (Jvm.ClassFile.FieldType.object "gatherwick/maps/GwTreeMap$Place"))).before args0 about1 = true := code_word (m := ⟨9, 8⟩) (meth := k9m8) (c := k9c8) (by decide +kernel) rfl rfl rfl (by decide +kernel)
set_option maxRecDepth 65536 in
theorem w_c20 : (Jvm.Cond.code ({ cls := "gatherwick/maps/GwTreeMap$Place", name := "<init>", desc := "()V" } : Jvm.MethodName) prog_47_method_1_code (1 : Nat) (Option.none : Option Jvm.ClassFile.FieldType)).before args0 about1 = true := code_word (m := ⟨17, 0⟩) (meth := k17m0) (c := k17c0) (by decide +kernel) rfl rfl rfl (by decide +kernel)
set_option maxRecDepth 65536 in
theorem w_c21 : (Jvm.Cond.code ({ cls := "gatherwick/maps/GwTreeMap", name := "link", desc := "(Lgatherwick/maps/GwTreeMap$Place;Ljava/lang/Object;Ljava/lang/Object;)V" } : Jvm.MethodName) prog_46_method_92_code (4 : Nat) (Option.none : Option Jvm.ClassFile.FieldType)).before args0 about1 = true := code_word (m := ⟨9, 12⟩) (meth := k9m12) (c := k9c12) (by decide +kernel) rfl rfl rfl (by decide +kernel)
set_option maxRecDepth 65536 in
theorem w_c22 : (Jvm.Cond.code ({ cls := "gatherwick/maps/GwTreeMap", name := "checkRoom", desc := "(I)V" } : Jvm.MethodName) prog_46_method_93_code (1 : Nat) (Option.none : Option Jvm.ClassFile.FieldType)).before args0 about1 = true := code_word (m := ⟨9, 13⟩) (meth := k9m13) (c := k9c13) (by decide +kernel) rfl rfl rfl (by decide +kernel)
set_option maxRecDepth 65536 in
theorem w_c23 : (Jvm.Cond.code ({ cls := "gatherwick/maps/RedBlackTree$Node", name := "<init>", desc := "(Ljava/lang/Object;Ljava/lang/Object;Lgatherwick/maps/RedBlackTree$Node;)V" } : Jvm.MethodName) prog_59_method_1_code (4 : Nat) (Option.none : Option Jvm.ClassFile.FieldType)).before args0 about1 = true := code_word (m := ⟨20, 0⟩) (meth := k20m0) (c := k20c0) (by decide +kernel) rfl rfl rfl (by decide +kernel)
set_option maxRecDepth 65536 in
theorem w_c24 : (Jvm.Cond.code ({ cls := "gatherwick/core/BaseEntry", name := "<init>", desc := "()V" } : Jvm.MethodName) prog_15_method_1_code (1 : Nat) (Option.none : Option Jvm.ClassFile.FieldType)).before args0 about1 = true := code_word (m := ⟨19, 0⟩) (meth := k19m0) (c := k19c0) (by decide +kernel) rfl rfl rfl (by decide +kernel)
set_option maxRecDepth 65536 in
theorem w_c25 : (Jvm.Cond.code ({ cls := "gatherwick/maps/RedBlackTree", name := "link", desc := "(Lgatherwick/maps/RedBlackTree$Node;Lgatherwick/maps/RedBlackTree$Node;Z)Lgatherwick/maps/RedBlackTree$Node;" } : Jvm.MethodName) prog_57_method_2_code (4 : Nat) (Option.some (Jvm.ClassFile.FieldType.object "gatherwick/maps/RedBlackTree$Node"))).before args0 about1 = true := code_word (m := ⟨21, 1⟩) (meth := k21m1) (c := k21c1) (by decide +kernel) rfl rfl rfl (by decide +kernel)
set_option maxRecDepth 65536 in
theorem w_c26 : (Jvm.Cond.code ({ cls := "gatherwick/maps/RedBlackTree", name := "rebalanceAfterLink", desc := "(Lgatherwick/maps/RedBlackTree$Node;Lgatherwick/maps/RedBlackTree$Node;)Lgatherwick/maps/RedBlackTree$Node;" } : Jvm.MethodName) prog_57_method_3_code (5 : Nat) (Option.some (Jvm.ClassFile.FieldType.object "gatherwick/maps/RedBlackTree$Node"))).before args0 about1 = true := code_word (m := ⟨21, 2⟩) (meth := k21m2) (c := k21c2) (by decide +kernel) rfl rfl rfl (by decide +kernel)
set_option maxRecDepth 65536 in
theorem w_c27 : (Jvm.Cond.code ({ cls := "gatherwick/maps/RedBlackTree", name := "isRed", desc := "(Lgatherwick/maps/RedBlackTree$Node;)Z" } : Jvm.MethodName) prog_57_method_8_code (1 : Nat) (Option.some Jvm.ClassFile.FieldType.boolean)).before args0 about1 = true := code_word (m := ⟨21, 3⟩) (meth := k21m3) (c := k21c3) (by decide +kernel) rfl rfl rfl (by decide +kernel)
set_option maxRecDepth 65536 in
theorem w_c28 : (Jvm.Cond.code ({ cls := "java/lang/Integer", name := "intValue", desc := "()I" } : Jvm.MethodName) jdk_33_method_27_code (1 : Nat) (Option.some Jvm.ClassFile.FieldType.int)).before args0 about1 = true := code_word (m := ⟨14, 2⟩) (meth := k14m2) (c := k14c2) (by decide +kernel) rfl rfl rfl (by decide +kernel)
set_option maxRecDepth 65536 in
theorem w_c29 : (Jvm.Cond.code ({ cls := "java/lang/Integer", name := "<init>", desc := "(I)V" } : Jvm.MethodName) jdk_33_method_23_code (2 : Nat) (Option.none : Option Jvm.ClassFile.FieldType)).before args0 about1 = true := code_word (m := ⟨14, 1⟩) (meth := k14m1) (c := k14c1) (by decide +kernel) rfl rfl rfl (by decide +kernel)
set_option maxRecDepth 65536 in
theorem w_c30 : (Jvm.Cond.code ({ cls := "java/lang/Number", name := "<init>", desc := "()V" } : Jvm.MethodName) jdk_18_method_1_code (1 : Nat) (Option.none : Option Jvm.ClassFile.FieldType)).before args0 about1 = true := code_word (m := ⟨10, 0⟩) (meth := k10m0) (c := k10c0) (by decide +kernel) rfl rfl rfl (by decide +kernel)
set_option maxRecDepth 65536 in
theorem w_c31 : (Jvm.Cond.code ({ cls := "gatherwick/maps/RedBlackTree", name := "rotateRight", desc := "(Lgatherwick/maps/RedBlackTree$Node;Lgatherwick/maps/RedBlackTree$Node;)Lgatherwick/maps/RedBlackTree$Node;" } : Jvm.MethodName) prog_57_method_11_code (3 : Nat) (Option.some (Jvm.ClassFile.FieldType.object "gatherwick/maps/RedBlackTree$Node"))).before args0 about1 = true := code_word (m := ⟨21, 6⟩) (meth := k21m6) (c := k21c6) (by decide +kernel) rfl rfl rfl (by decide +kernel)
set_option maxRecDepth 65536 in
theorem w_c32 : (Jvm.Cond.code ({ cls := "gatherwick/maps/RedBlackTree", name := "replace", desc := "(Lgatherwick/maps/RedBlackTree$Node;Lgatherwick/maps/RedBlackTree$Node;Lgatherwick/maps/RedBlackTree$Node;)Lgatherwick/maps/RedBlackTree$Node;" } : Jvm.MethodName) prog_57_method_9_code (4 : Nat) (Option.some (Jvm.ClassFile.FieldType.object "gatherwick/maps/RedBlackTree$Node"))).before args0 about1 = true := code_word (m := ⟨21, 4⟩) (meth := k21m4) (c := k21c4) (by decide +kernel) rfl rfl rfl (by decide +kernel)
set_option maxRecDepth 65536 in
theorem w_c33 : (Jvm.Cond.code ({ cls := "gatherwick/maps/RedBlackTree", name := "rotateLeft", desc := "(Lgatherwick/maps/RedBlackTree$Node;Lgatherwick/maps/RedBlackTree$Node;)Lgatherwick/maps/RedBlackTree$Node;" } : Jvm.MethodName) prog_57_method_10_code (3 : Nat) (Option.some (Jvm.ClassFile.FieldType.object "gatherwick/maps/RedBlackTree$Node"))).before args0 about1 = true := code_word (m := ⟨21, 5⟩) (meth := k21m5) (c := k21c5) (by decide +kernel) rfl rfl rfl (by decide +kernel)
set_option maxRecDepth 65536 in
theorem w_c34 : (Jvm.Cond.code ({ cls := "gatherwick/maps/RedBlackTree$Node", name := "setValue", desc := "(Ljava/lang/Object;)Ljava/lang/Object;" } : Jvm.MethodName) prog_59_method_4_code (3 : Nat) (Option.some (Jvm.ClassFile.FieldType.object "java/lang/Object"))).before args0 about1 = true := code_word (m := ⟨20, 1⟩) (meth := k20m1) (c := k20c1) (by decide +kernel) rfl rfl rfl (by decide +kernel)
def codes1 : List Jvm.Cond := [Jvm.Cond.code x code maxLocals ret, Jvm.Cond.code ({ cls := "gatherwick/maps/GwTreeMap", name := "<init>", desc := "()V" } : Jvm.MethodName) prog_46_method_1_code (1 : Nat) (Option.none : Option Jvm.ClassFile.FieldType), Jvm.Cond.code ({ cls := "gatherwick/core/BaseMap", name := "<init>", desc := "()V" } : Jvm.MethodName) prog_20_method_1_code (1 : Nat) (Option.none : Option Jvm.ClassFile.FieldType), Jvm.Cond.code ({ cls := "java/lang/Object", name := "<init>", desc := "()V" } : Jvm.MethodName) object_method_1_code (1 : Nat) (Option.none : Option Jvm.ClassFile.FieldType), Jvm.Cond.code ({ cls := "gatherwick/maps/GwTreeMap", name := "clear", desc := "()V" } : Jvm.MethodName) prog_46_method_22_code (1 : Nat) (Option.none : Option Jvm.ClassFile.FieldType), Jvm.Cond.code ({ cls := "gatherwick/maps/GwTreeMap", name := "size", desc := "()I" } : Jvm.MethodName) prog_46_method_9_code (1 : Nat) (Option.some Jvm.ClassFile.FieldType.int), Jvm.Cond.code ({ cls := "java/lang/Integer", name := "valueOf", desc := "(I)Ljava/lang/Integer;" } : Jvm.MethodName) jdk_33_method_22_code (1 : Nat) (Option.some (Jvm.ClassFile.FieldType.object "java/lang/Integer")), Jvm.Cond.code ({ cls := "gatherwick/maps/GwTreeMap", name := "get", desc := "(Ljava/lang/Object;)Ljava/lang/Object;" } : Jvm.MethodName) prog_46_method_12_code (2 : Nat) (Option.some (Jvm.ClassFile.FieldType.object "java/lang/Object")), Jvm.Cond.code ({ cls := "gatherwick/maps/GwTreeMap", name := "getIn", desc := "(Lgatherwick/maps/GwTreeMap$SubMap;Ljava/lang/Object;)Ljava/lang/Object;" } : Jvm.MethodName) prog_46_method_67_code (4 : Nat) (Option.some (Jvm.ClassFile.FieldType.object "java/lang/Object")), Jvm.Cond.code ({ cls := "gatherwick/maps/GwTreeMap", name := "find", desc := "(Lgatherwick/maps/GwTreeMap$SubMap;Ljava/lang/Object;)Lgatherwick/maps/RedBlackTree$Node;" } : Jvm.MethodName) prog_46_method_79_code (3 : Nat) (Option.some (Jvm.ClassFile.FieldType.object "gatherwick/maps/RedBlackTree$Node")), Jvm.Cond.code ({ cls := "gatherwick/maps/GwTreeMap", name := "search", desc := "(Ljava/lang/Object;Lgatherwick/maps/GwTreeMap$Place;Z)Lgatherwick/maps/RedBlackTree$Node;" } : Jvm.MethodName) prog_46_method_86_code (7 : Nat) (Option.some (Jvm.ClassFile.FieldType.object "gatherwick/maps/RedBlackTree$Node")), Jvm.Cond.code ({ cls := "gatherwick/maps/GwTreeMap", name := "compare", desc := "(Ljava/lang/Object;Ljava/lang/Object;)I" } : Jvm.MethodName) prog_46_method_85_code (3 : Nat) (Option.some Jvm.ClassFile.FieldType.int), Jvm.Cond.code ({ cls := "gatherwick/core/Sorting", name := "compare", desc := "(Ljava/util/Comparator;Ljava/lang/Object;Ljava/lang/Object;)I" } : Jvm.MethodName) prog_23_method_3_code (3 : Nat) (Option.some Jvm.ClassFile.FieldType.int), Jvm.Cond.code ({ cls := "java/lang/Integer", name := "compareTo", desc := "(Ljava/lang/Object;)I" } : Jvm.MethodName) jdk_33_method_63_code (2 : Nat) (Option.some Jvm.ClassFile.FieldType.int), Jvm.Cond.code ({ cls := "java/lang/Integer", name := "compareTo", desc := "(Ljava/lang/Integer;)I" } : Jvm.MethodName) jdk_33_method_39_code (2 : Nat) (Option.some Jvm.ClassFile.FieldType.int), Jvm.Cond.code ({ cls := "java/lang/Integer", name := "compare", desc := "(II)I" } : Jvm.MethodName) jdk_33_method_40_code (2 : Nat) (Option.some Jvm.ClassFile.FieldType.int), Jvm.Cond.code ({ cls := "gatherwick/maps/GwTreeMap", name := "put", desc := "(Ljava/lang/Object;Ljava/lang/Object;)Ljava/lang/Object;" } : Jvm.MethodName) prog_46_method_16_code (3 : Nat) (Option.some (Jvm.ClassFile.FieldType.object "java/lang/Object")), Jvm.Cond.code ({ cls := "gatherwick/maps/GwTreeMap", name := "putIn", desc := "(Lgatherwick/maps/GwTreeMap$SubMap;Ljava/lang/Object;Ljava/lang/Object;)Ljava/lang/Object;" } : Jvm.MethodName) prog_46_method_69_code (5 : Nat) (Option.some (Jvm.ClassFile.FieldType.object "java/lang/Object")), Jvm.Cond.code ({ cls := "gatherwick/maps/GwTreeMap", name := "locateToAdd", desc := "(Lgatherwick/maps/GwTreeMap$SubMap;Ljava/lang/Object;)Lgatherwick/maps/GwTreeMap$Place;" } : Jvm.MethodName) prog_46_method_81_code (4 : Nat) (Option.some (Jvm.ClassFile.FieldType.object "gatherwick/maps/GwTreeMap$Place")), Jvm.Cond.code ({ cls := "gatherwick/maps/GwTreeMap", name := "locate", desc := "(Lgatherwick/maps/GwTreeMap$SubMap;Ljava/lang/Object;)Lgatherwick/maps/GwTreeMap$Place;" } : Jvm.MethodName) prog_46_method_80_code (4 : Nat) (Option.some (Jvm.ClassFile.FieldType.object "gatherwick/maps/GwTreeMap$Place")), Jvm.Cond.code ({ cls := "gatherwick/maps/GwTreeMap$Place", name := "<init>", desc := "()V" } : Jvm.MethodName) prog_47_method_1_code (1 : Nat) (Option.none : Option Jvm.ClassFile.FieldType), Jvm.Cond.code ({ cls := "gatherwick/maps/GwTreeMap", name := "link", desc := "(Lgatherwick/maps/GwTreeMap$Place;Ljava/lang/Object;Ljava/lang/Object;)V" } : Jvm.MethodName) prog_46_method_92_code (4 : Nat) (Option.none : Option Jvm.ClassFile.FieldType), Jvm.Cond.code ({ cls := "gatherwick/maps/GwTreeMap", name := "checkRoom", desc := "(I)V" } : Jvm.MethodName) prog_46_method_93_code (1 : Nat) (Option.none : Option Jvm.ClassFile.FieldType), Jvm.Cond.code ({ cls := "gatherwick/maps/RedBlackTree$Node", name := "<init>", desc := "(Ljava/lang/Object;Ljava/lang/Object;Lgatherwick/maps/RedBlackTree$Node;)V" } : Jvm.MethodName) prog_59_method_1_code (4 : Nat) (Option.none : Option Jvm.ClassFile.FieldType), Jvm.Cond.code ({ cls := "gatherwick/core/BaseEntry", name := "<init>", desc := "()V" } : Jvm.MethodName) prog_15_method_1_code (1 : Nat) (Option.none : Option Jvm.ClassFile.FieldType), Jvm.Cond.code ({ cls := "gatherwick/maps/RedBlackTree", name := "link", desc := "(Lgatherwick/maps/RedBlackTree$Node;Lgatherwick/maps/RedBlackTree$Node;Z)Lgatherwick/maps/RedBlackTree$Node;" } : Jvm.MethodName) prog_57_method_2_code (4 : Nat) (Option.some (Jvm.ClassFile.FieldType.object "gatherwick/maps/RedBlackTree$Node")), Jvm.Cond.code ({ cls := "gatherwick/maps/RedBlackTree", name := "rebalanceAfterLink", desc := "(Lgatherwick/maps/RedBlackTree$Node;Lgatherwick/maps/RedBlackTree$Node;)Lgatherwick/maps/RedBlackTree$Node;" } : Jvm.MethodName) prog_57_method_3_code (5 : Nat) (Option.some (Jvm.ClassFile.FieldType.object "gatherwick/maps/RedBlackTree$Node")), Jvm.Cond.code ({ cls := "gatherwick/maps/RedBlackTree", name := "isRed", desc := "(Lgatherwick/maps/RedBlackTree$Node;)Z" } : Jvm.MethodName) prog_57_method_8_code (1 : Nat) (Option.some Jvm.ClassFile.FieldType.boolean), Jvm.Cond.code ({ cls := "java/lang/Integer", name := "intValue", desc := "()I" } : Jvm.MethodName) jdk_33_method_27_code (1 : Nat) (Option.some Jvm.ClassFile.FieldType.int), Jvm.Cond.code ({ cls := "java/lang/Integer", name := "<init>", desc := "(I)V" } : Jvm.MethodName) jdk_33_method_23_code (2 : Nat) (Option.none : Option Jvm.ClassFile.FieldType), Jvm.Cond.code ({ cls := "java/lang/Number", name := "<init>", desc := "()V" } : Jvm.MethodName) jdk_18_method_1_code (1 : Nat) (Option.none : Option Jvm.ClassFile.FieldType), Jvm.Cond.code ({ cls := "gatherwick/maps/RedBlackTree", name := "rotateRight", desc := "(Lgatherwick/maps/RedBlackTree$Node;Lgatherwick/maps/RedBlackTree$Node;)Lgatherwick/maps/RedBlackTree$Node;" } : Jvm.MethodName) prog_57_method_11_code (3 : Nat) (Option.some (Jvm.ClassFile.FieldType.object "gatherwick/maps/RedBlackTree$Node")), Jvm.Cond.code ({ cls := "gatherwick/maps/RedBlackTree", name := "replace", desc := "(Lgatherwick/maps/RedBlackTree$Node;Lgatherwick/maps/RedBlackTree$Node;Lgatherwick/maps/RedBlackTree$Node;)Lgatherwick/maps/RedBlackTree$Node;" } : Jvm.MethodName) prog_57_method_9_code (4 : Nat) (Option.some (Jvm.ClassFile.FieldType.object "gatherwick/maps/RedBlackTree$Node")), Jvm.Cond.code ({ cls := "gatherwick/maps/RedBlackTree", name := "rotateLeft", desc := "(Lgatherwick/maps/RedBlackTree$Node;Lgatherwick/maps/RedBlackTree$Node;)Lgatherwick/maps/RedBlackTree$Node;" } : Jvm.MethodName) prog_57_method_10_code (3 : Nat) (Option.some (Jvm.ClassFile.FieldType.object "gatherwick/maps/RedBlackTree$Node")), Jvm.Cond.code ({ cls := "gatherwick/maps/RedBlackTree$Node", name := "setValue", desc := "(Ljava/lang/Object;)Ljava/lang/Object;" } : Jvm.MethodName) prog_59_method_4_code (3 : Nat) (Option.some (Jvm.ClassFile.FieldType.object "java/lang/Object"))]
set_option maxRecDepth 65536 in
theorem codes_eq : words1.filter isCode = codes1 := rfl
theorem w_codes : ∀ c ∈ words1.filter isCode, c.before args0 about1 = true := by
  rw [codes_eq]
  intro c hc
  simp only [codes1, List.mem_cons, List.not_mem_nil, or_false] at hc
  rcases hc with rfl | rfl | rfl | rfl | rfl | rfl | rfl | rfl | rfl | rfl | rfl | rfl | rfl | rfl | rfl | rfl | rfl | rfl | rfl | rfl | rfl | rfl | rfl | rfl | rfl | rfl | rfl | rfl | rfl | rfl | rfl | rfl | rfl | rfl | rfl
  · exact w_c0
  · exact w_c1
  · exact w_c2
  · exact w_c3
  · exact w_c4
  · exact w_c5
  · exact w_c6
  · exact w_c7
  · exact w_c8
  · exact w_c9
  · exact w_c10
  · exact w_c11
  · exact w_c12
  · exact w_c13
  · exact w_c14
  · exact w_c15
  · exact w_c16
  · exact w_c17
  · exact w_c18
  · exact w_c19
  · exact w_c20
  · exact w_c21
  · exact w_c22
  · exact w_c23
  · exact w_c24
  · exact w_c25
  · exact w_c26
  · exact w_c27
  · exact w_c28
  · exact w_c29
  · exact w_c30
  · exact w_c31
  · exact w_c32
  · exact w_c33
  · exact w_c34
set_option maxRecDepth 65536 in
theorem w_t1 : (words1.take 24).all (fun c => isCode c || c.before args0 about1) = true := by decide +kernel
set_option maxRecDepth 65536 in
theorem w_t2 : ((words1.drop 24).take 24).all (fun c => isCode c || c.before args0 about1) = true := by decide +kernel
set_option maxRecDepth 65536 in
theorem w_t3 : (((words1.drop 24).drop 24).take 24).all (fun c => isCode c || c.before args0 about1) = true := by decide +kernel
set_option maxRecDepth 65536 in
theorem w_t4 : ((((words1.drop 24).drop 24).drop 24).take 24).all (fun c => isCode c || c.before args0 about1) = true := by decide +kernel
set_option maxRecDepth 65536 in
theorem w_t5 : (((((words1.drop 24).drop 24).drop 24).drop 24).take 24).all (fun c => isCode c || c.before args0 about1) = true := by decide +kernel
set_option maxRecDepth 65536 in
theorem w_t6 : ((((((words1.drop 24).drop 24).drop 24).drop 24).drop 24).take 24).all (fun c => isCode c || c.before args0 about1) = true := by decide +kernel
set_option maxRecDepth 65536 in
theorem w_t7 : (((((((words1.drop 24).drop 24).drop 24).drop 24).drop 24).drop 24).take 24).all (fun c => isCode c || c.before args0 about1) = true := by decide +kernel
set_option maxRecDepth 65536 in
theorem w_t8 : ((((((((words1.drop 24).drop 24).drop 24).drop 24).drop 24).drop 24).drop 24).take 24).all (fun c => isCode c || c.before args0 about1) = true := by decide +kernel
set_option maxRecDepth 65536 in
theorem w_t9 : ((((((((words1.drop 24).drop 24).drop 24).drop 24).drop 24).drop 24).drop 24).drop 24).all (fun c => isCode c || c.before args0 about1) = true := by decide +kernel
theorem w_tables : (allAtoms (Jvm.Cond.code x code maxLocals ret :: tables_1)).before args0 about1 = true := by
  rw [allAtoms_all]
  show words1.all (fun c => c.before args0 about1) = true
  refine all_split ?_ w_codes
  rw [← List.take_append_drop 24 words1, List.all_append, w_t1, ← List.take_append_drop 24 (words1.drop 24), List.all_append, w_t2, ← List.take_append_drop 24 ((words1.drop 24).drop 24), List.all_append, w_t3, ← List.take_append_drop 24 (((words1.drop 24).drop 24).drop 24), List.all_append, w_t4, ← List.take_append_drop 24 ((((words1.drop 24).drop 24).drop 24).drop 24), List.all_append, w_t5, ← List.take_append_drop 24 (((((words1.drop 24).drop 24).drop 24).drop 24).drop 24), List.all_append, w_t6, ← List.take_append_drop 24 ((((((words1.drop 24).drop 24).drop 24).drop 24).drop 24).drop 24), List.all_append, w_t7, ← List.take_append_drop 24 (((((((words1.drop 24).drop 24).drop 24).drop 24).drop 24).drop 24).drop 24), List.all_append, w_t8, w_t9]
  rfl
set_option maxRecDepth 65536 in
theorem w_rest : rest_1_c.before args0 about1 = true := by decide +kernel
set_option maxRecDepth 65536 in
theorem w_case : (Jvm.Cond.and given_1 narrow_1).before args0 about1 = true := by decide +kernel
theorem w_applies : (headSpec (Jvm.Cond.code x code maxLocals ret :: tables_1) room_1).applies x e0.platform about1 = true :=
  (Spec.applies_iff w_frames).mpr ⟨w_running, w_runnable, w_alone, w_named, w_hears, w_ripe, w_room, w_tables⟩
theorem atStart : AtStart classFile x code maxLocals ret World_1 tables_1 room_1 Calls_1 rest_1 Pre_1 launch0 p0 e0 about1 theMethod args0 below0 :=
  ⟨lists_1, trivial, launch0.admits_env _ _ _, launch0.least_env, fairChoices_fair.cas, fairChoices_fair.clock, w_frames, w_args, w_heap, w_applies, trivial, w_rest, w_case⟩
end start1
theorem witness_1 : WitnessClaimed_1 := ⟨start1.p0, start1.e0, start1.about1, start1.theMethod, start1.args0, start1.below0, start1.atStart⟩
end Jvm.Pilot.@@N@@
