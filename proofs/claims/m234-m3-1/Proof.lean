import JvmDerived
import JvmDerived.Pilot.@@N@@Statement
import JvmDerived.Pilot.@@N@@Code
set_option linter.unusedVariables false
set_option linter.unusedSimpArgs false
namespace Jvm.RoadKit
open Sem ClassFile Op Lib Jvm.Stand Jvm.Free Jvm.LawKit
/-- the run from S comes to an end that Post allows -/
def own_Fin (tb : Tables) (e : Env) (below : List Frame) (Post : Outcome → State → Prop) (S : State) : Prop := ∃ s₂ o, Steps tb e below S s₂ ∧ s₂.status = .running ∧ Ended s₂ below o ∧ Post o s₂
def own_post (Q : Option Value → Heap → List Loc → Prop) (s : State) (k n : Nat) (o : Outcome) (U : State) : Prop := ∃ v L, o = .returned v ∧ Q v U.heap L ∧ FrameEnd s o U L k n
def own_bool (P : Prop) (v : Option Value) : Prop := (v = some (.int 1) ∧ P) ∨ (v = some (.int 0) ∧ ¬ P)
theorem own_Fin.step {tb : Tables} {e : Env} {below : List Frame} {Post : Outcome → State → Prop} {S S' : State} (h : ∀ t, Steps tb e below S' t → Steps tb e below S t) (k : own_Fin tb e below Post S') : own_Fin tb e below Post S := by
  obtain ⟨s2, o, h1, h2⟩ := k
  exact ⟨s2, o, h _ h1, h2⟩
theorem own_Fin.trans {tb : Tables} {e : Env} {below : List Frame} {Post : Outcome → State → Prop} {S S' : State} (h : Steps tb e below S S') (k : own_Fin tb e below Post S') : own_Fin tb e below Post S := by
  obtain ⟨s2, o, h1, h2⟩ := k
  exact ⟨s2, o, h.trans h1, h2⟩
section New
variable {p : Program} {l : Launch} {e : Env} {R : Room} {s : State} {m : MethodId} {args : Array Value} {below : List Frame} {meth : Method} {c : Code} {T : State} {locs : List Loc} {cells slots : Nat} {Q : Option Value → Heap → List Loc → Prop} {kc ks : Nat} {h : Heap}
theorem retI (X : Stand p l e R s m args below meth c T locs cells slots) (hx : p.tables.exec = Jvm.exec) {pc : Nat} {Ls : Array Slot} {z : Int32} {rest : List Value} (hret : meth.sig.returnType = some .int) (hd : decode c.code pc = .ok (.ireturn, 1)) {fs : List Frame}
    (hl : ∀ (f : JFrame) (acts : List Action), f.method = m → f.locked = none → f.entered = [] → (doReturn e (T.setTop f) acts (some (.int z))).1 = T.setFrames fs) : Steps p.tables e below (T.setTop (mkF m pc Ls (.int z :: rest))) (T.setFrames fs) := by
  have hm' : T.vm.method? m = some meth := X.method'
  have hn : narrow .int (.int z) = .int z := rfl
  show Steps p.tables e below (T.setTop { method := m, pc := pc, locals := Ls, stack := _ :: rest, locked := none }) _
  jvm_step X.here [X.here.top, hx, hd, hm', hret, hn]
  first | (intro acts; rw [hl _ acts rfl rfl rfl]) | rw [hl _ _ rfl rfl rfl]
  exact Steps.refl _
theorem own_retN (X : Stand p l e R s m args below meth c T locs cells slots) (hx : p.tables.exec = Jvm.exec) (hlk : meth.locks = false) {pc : Nat} {Ls : Array Slot} {z : Int32} {t : FieldType} {rest : List Value} (hret : meth.sig.returnType = some t) (ht : t = .boolean ∨ t = .byte ∨ t = .char ∨ t = .short)
    (hd : decode c.code pc = .ok (.ireturn, 1)) (eT : T.heap = h) (hq : Q (some (.int (nar t z))) h locs) (hc : cells ≤ kc) (hs : slots ≤ ks) : own_Fin p.tables e below (own_post Q s kc ks) (T.setTop (mkF m pc Ls (.int z :: rest))) := by
  obtain ⟨fs, hr, hrun, hended, hW, hsame⟩ := X.leave (v := some (.int (nar t z))) (fun h => by rw [hret] at h; cases h) hlk
  exact ⟨_, _, retN X hx hret ht hd hr, hrun, hended, _, _, rfl, (eT ▸ hq : Q (some (.int (nar t z))) T.heap locs), ⟨_, rfl⟩, hW, hsame.mono hc hs⟩
theorem own_retI (X : Stand p l e R s m args below meth c T locs cells slots) (hx : p.tables.exec = Jvm.exec) (hlk : meth.locks = false) {pc : Nat} {Ls : Array Slot} {z : Int32} {rest : List Value} (hret : meth.sig.returnType = some .int)
    (hd : decode c.code pc = .ok (.ireturn, 1)) (eT : T.heap = h) (hq : Q (some (.int z)) h locs) (hc : cells ≤ kc) (hs : slots ≤ ks) : own_Fin p.tables e below (own_post Q s kc ks) (T.setTop (mkF m pc Ls (.int z :: rest))) := by
  obtain ⟨fs, hr, hrun, hended, hW, hsame⟩ := X.leave (v := some (.int z)) (fun h => by rw [hret] at h; cases h) hlk
  exact ⟨_, _, retI X hx hret hd hr, hrun, hended, _, _, rfl, (eT ▸ hq : Q (some (.int z)) T.heap locs), ⟨_, rfl⟩, hW, hsame.mono hc hs⟩
theorem own_retJ (X : Stand p l e R s m args below meth c T locs cells slots) (hx : p.tables.exec = Jvm.exec) (hlk : meth.locks = false) {pc : Nat} {Ls : Array Slot} {z : Int64} (hret : meth.sig.returnType = some .long)
    (hd : decode c.code pc = .ok (.lreturn, 1)) (eT : T.heap = h) (hq : Q (some (.long z)) h locs) (hc : cells ≤ kc) (hs : slots ≤ ks) : own_Fin p.tables e below (own_post Q s kc ks) (T.setTop (mkF m pc Ls [.long z])) := by
  obtain ⟨fs, hr, hrun, hended, hW, hsame⟩ := X.leave (v := some (.long z)) (fun h => by rw [hret] at h; cases h) hlk
  exact ⟨_, _, X.lreturnOut hx hret hd hr, hrun, hended, _, _, rfl, (eT ▸ hq : Q (some (.long z)) T.heap locs), ⟨_, rfl⟩, hW, hsame.mono hc hs⟩
theorem own_retR (X : Stand p l e R s m args below meth c T locs cells slots) (hx : p.tables.exec = Jvm.exec) (hlk : meth.locks = false) {pc : Nat} {Ls : Array Slot} {w : Value} {t : FieldType} (hw : w.isRef = true) (hret : meth.sig.returnType = some t) (ht : t.isReference = true)
    (hd : decode c.code pc = .ok (.areturn, 1)) (eT : T.heap = h) (hq : Q (some w) h locs) (hc : cells ≤ kc) (hs : slots ≤ ks) : own_Fin p.tables e below (own_post Q s kc ks) (T.setTop (mkF m pc Ls [w])) := by
  obtain ⟨fs, hr, hrun, hended, hW, hsame⟩ := X.leave (v := some w) (fun h => by rw [hret] at h; cases h) hlk
  exact ⟨_, _, X.areturnOut hx hw hret ht hd hr, hrun, hended, _, _, rfl, (eT ▸ hq : Q (some w) T.heap locs), ⟨_, rfl⟩, hW, hsame.mono hc hs⟩
theorem own_retV (X : Stand p l e R s m args below meth c T locs cells slots) (hx : p.tables.exec = Jvm.exec) (hlk : meth.locks = false) {pc : Nat} {Ls : Array Slot} (hret : meth.sig.returnType = none)
    (hd : decode c.code pc = .ok (.return_, 1)) (eT : T.heap = h) (hq : Q none h locs) (hc : cells ≤ kc) (hs : slots ≤ ks) : own_Fin p.tables e below (own_post Q s kc ks) (T.setTop (mkF m pc Ls [])) := by
  obtain ⟨fs, hr, hrun, hended, hW, hsame⟩ := X.leave (v := none) (fun _ => rfl) hlk
  exact ⟨_, _, X.returnOut hx hret hd hr, hrun, hended, _, _, rfl, (eT ▸ hq : Q none T.heap locs), ⟨_, rfl⟩, hW, hsame.mono hc hs⟩
theorem own_cat1 {v : Value} (h : v.isRef = true) : v.category = 1 := by cases v <;> simp [Value.isRef, Value.category] at h ⊢
theorem own_catR {a : Addr} : (Value.ref a).category = 1 := rfl
theorem own_catN : Value.null.category = 1 := rfl
theorem own_catI {a : Int32} : (Value.int a).category = 1 := rfl
theorem own_catJ {a : Int64} : (Value.long a).category = 2 := rfl
theorem own_fitR {v : Value} {C : String} (h : v.isRef = true) : fits (.object C) v = true := by cases v <;> simp [Value.isRef, fits] at h ⊢
theorem own_fitA {v : Value} {ty : FieldType} (h : v.isRef = true) : fits (.array ty) v = true := by cases v <;> simp [Value.isRef, fits] at h ⊢
theorem own_selPriv {s : State} {args : Array Value} {y : MethodName} {n : Nat} (hi : (Cond.instantiable y.cls n).before args s = true) (hpriv : s.PrivateAt y) (hinst : (Cond.instanceMethod y).before args s = true) (hy : y.cls ≠ "java/lang/invoke/MethodHandle" ∧ y.cls ≠ "java/lang/invoke/VarHandle") : (Cond.selects y.cls y y).before args s = true := by
  obtain ⟨c, k, h1, h2, -, h4, -, -⟩ := Cond.instantiable_spec hi
  have h5 : k.isInterface = false := by
    cases hk : k.isInterface with
    | false => rfl
    | true => simp [hk] at h4
  exact selects_self_of_private h1 h2 h5 hpriv hinst hy
theorem own_eqI {a b : Term} {args : Array Value} {first st : State} {o : Option Outcome} {idx : List Nat} {y : Int32} (h : (Cond.eq a b).value args first o st idx = some true) (hb : b.eval args first o idx st = some (.int y)) : a.eval args first o idx st = some (.int y) := by
  cases ha : a.eval args first o idx st with
  | none => simp [Cond.value, ha] at h
  | some x => cases x <;> simp [Cond.value, ha, hb] at h ⊢ <;> exact h
theorem own_eqR {a b : Term} {args : Array Value} {first st : State} {o : Option Outcome} {idx : List Nat} {y : Addr} (h : (Cond.eq a b).value args first o st idx = some true) (hb : b.eval args first o idx st = some (.ref y)) : a.eval args first o idx st = some (.ref y) := by
  cases ha : a.eval args first o idx st with
  | none => simp [Cond.value, ha] at h
  | some x => cases x <;> simp [Cond.value, ha, hb] at h ⊢ <;> exact h
theorem own_elem {t : Term} {args : Array Value} {Z : State} {a : Addr} {cl : Cell} {ty : FieldType} {j : Int32} {v : Value} (ev : t.eval args Z none [] Z = some (.ref a)) (A : Arr Z Z.heap a cl ty) (h : (Term.elem t (.int j)).eval args Z none [] Z = some v) : cl.slots[j.toNatClampNeg]? = some v := by
  obtain ⟨a', j', cell, e1, e2, e3, -, e5⟩ := Term.elem_spec h
  cases e1.symm.trans ev
  have e6 : some (Value.int j) = some (Value.int j') := e2
  cases e6
  have := IntBox.arrayAt_of A.1 A.2.1 A.2.2
  cases e3.symm.trans this
  exact e5
theorem own_arv {t : Term} {args : Array Value} {Z : State} {a : Addr} {cl : Cell} {ty : FieldType} {z : Int32} {vs : List Value} {dv : Value} (hf : Fit Z) (ev : t.eval args Z none [] Z = some (.ref a)) (A : Arr Z Z.heap a cl ty) (hl : (Term.length t).eval args Z none [] Z = some (.int z)) (hz : ¬ z < 0) (hn : z.toNatClampNeg = vs.length) (H : HasL cl 0 vs) : Arv Z Z.heap a cl.cls ty z vs dv := by
  have hA := IntBox.arrayAt_of A.1 A.2.1 A.2.2
  have hlt : cl.slots.size < 2 ^ 31 := by
    by_cases hq : cl.slots.size < 2 ^ 31
    · exact hq
    · simp [Term.eval, ev, hA, hq] at hl
  have e := len_f (t := t) (args := args) (first := Z) (o := none) (idx := []) ev hA hlt
  have e2 : cl.slots.size.toInt32 = z := by
    have := e.symm.trans hl
    cases this; rfl
  exact Arv.start hf A hlt e2 hz hn H
end New
end Jvm.RoadKit
namespace Jvm.RoadKit
open Sem ClassFile Op Lib Jvm.Stand Jvm.Free Jvm.LawKit
section Refs
variable {p : Program} {l : Launch} {e : Env} {R : Room} {s : State} {m : MethodId} {args : Array Value} {below : List Frame} {meth : Method} {c : Code} {T : State} {locs : List Loc} {cells slots : Nat} {Z : State} {a0 : Array Value} {h : Heap}
/-- a resolved Fieldref, at the tables where the walk stands -/
theorem own_fref (X : Stand p l e R s m args below meth c T locs cells slots) (hZ : Z.Warmed39 s.vm) {own R0 n d : String} {index : Nat} (hown : s.vm.findClass own = some m.cls) (w : (Cond.fieldRef own index R0 n d).before a0 Z = true) {cf i : Nat} {k : Class} {f : Field} (hf : Z.fieldFound? R0 n d = some (cf, k, i, f)) : T.vm.fieldReady m.cls index cf f := by
  have hT : Z.Warmed39 T.vm := wtrans hZ X.warmed
  have w2 := Cond.fieldRef_warmed39 hT w
  have ho : (Z.setVm T.vm).vm.findClass own = some m.cls := by
    show T.vm.findClass own = some m.cls
    rw [X.warmed.alike.findClass]; exact hown
  obtain ⟨c', k', i', f', h1, h2⟩ := Cond.fieldRef_spec ho (show _ from w2)
  obtain ⟨k2, h3, -⟩ := State.fieldFound?_setVm (s := Z) hT.alike hf
  cases h1.symm.trans h3
  exact h2
theorem own_getFR (X : Stand p l e R s m args below meth c T locs cells slots) (hx : p.tables.exec = Jvm.exec) (hZ : Z.Warmed39 s.vm) {own R0 O n d : String} {index : Nat} (hown : s.vm.findClass own = some m.cls) (w : (Cond.fieldRef own index R0 n d).before a0 Z = true) (via : Via Z R0 O n d)
    (eT : T.heap = h) {a : Addr} {v : Value} (F : Fld Z h a O n d v) {g : JFrame} (hg : g.method = m) {rest : List Value} (hs : g.stack = .ref a :: rest) (hd : decode c.code g.pc = .ok (.getfield index, 3)) : ∃ T', Stand p l e R s m args below meth c T' locs cells slots ∧ T'.heap = h ∧ ∀ target, Steps p.tables e below (T'.setTop { g with pc := g.pc + 3, stack := v :: rest }) target → Steps p.tables e below (T.setTop g) target := by
  obtain ⟨cell, cf, k, i, f, h1, h2, h3, h4, -, -, h7⟩ := F
  have hr := own_fref X hZ hown w (via _ h2)
  refine ⟨T, X, eT, fun target hrest => ?_⟩
  subst hg
  jvm_step X.here [hx, hd, getfield.wp_ready (e := e) (s := T) (f := g) X.here.top hr h3 hs (show T.heap[a]? = some cell by rw [eT]; exact h1) h4 h7]
  exact hrest
/-- a resolved Methodref, at the tables where the walk stands -/
theorem own_mref (X : Stand p l e R s m args below meth c T locs cells slots) (hZ : Z.Warmed39 s.vm) {own : String} {index : Nat} {y : MethodName} (hown : s.vm.findClass own = some m.cls) (w : (Cond.methodRef own index y).before a0 Z = true) {mk : MethodId} (hn : Z.methodNamed? y = some mk) (hy : y.cls ≠ "java/lang/invoke/MethodHandle" ∧ y.cls ≠ "java/lang/invoke/VarHandle") :
    ∃ cY, T.vm.findClass y.cls = some cY ∧ namesResolved T.vm m.cls index cY ∧ T.vm.methodReady m.cls index mk := by
  have hT : Z.Warmed39 T.vm := wtrans hZ X.warmed
  have w2 := Cond.methodRef_warmed39 hT hn hy w
  have ho : (Z.setVm T.vm).vm.findClass own = some m.cls := by
    show T.vm.findClass own = some m.cls
    rw [X.warmed.alike.findClass]; exact hown
  obtain ⟨m', c', ci, b, h1, h2, h3, h4, h5⟩ := Cond.methodRef_spec (e := e) ho (show _ from w2)
  have hn' : (Z.setVm T.vm).methodNamed? y = some mk := by rw [State.methodNamed?_setVm hT.alike]; exact hn
  cases h1.symm.trans (State.methodFound?_of_named hn' hy)
  have hnames : (Z.setVm T.vm).names own index (.method y.cls y.name y.desc) = true := by
    have w3 := Cond.before_iff.mp w2
    simp only [Cond.value, ho, h1, Option.some.injEq, Bool.and_eq_true] at w3
    exact w3.1.1
  obtain ⟨cp, hcp, hn2⟩ := State.names_spec hnames
  obtain ⟨ci', nt, hentry, hnt, -⟩ := namesOf?_method hn2
  obtain ⟨k, cf, hk, hcf, rfl⟩ := State.poolOf?_spec ho hcp
  obtain ⟨b', hask⟩ := memberRef_ask' (e := e) hk hcf hentry hnt
  have hci : ci = ci' := by rw [h4] at hask; simp at hask; exact hask.1
  subst hci
  exact ⟨c', h3, ⟨k, cf, ci, nt, hk, hcf, hentry, h5⟩, h2⟩
/-- a private method of a nest mate by its contract, the entry being resolved -/
theorem own_privR (X : Stand p l e R s m args below meth c T locs cells slots) (hx : p.tables.exec = Jvm.exec) (hZ : Z.Warmed39 s.vm) {own : String} {index kk : Nat} {y : MethodName} (hown : s.vm.findClass own = some m.cls) (w : (Cond.methodRef own index y).before a0 Z = true)
    (wi : (Cond.instanceMethod y).before a0 Z = true) (wp : (Cond.privateMethod y).before a0 Z = true) (wn : (Cond.instantiable y.cls kk).before a0 Z = true) (hy : y.cls ≠ "java/lang/invoke/MethodHandle" ∧ y.cls ≠ "java/lang/invoke/VarHandle")
    {W : Nat} {Pre : Pt → Array Value → Prop} {Post : Pt → Array Value → Option Value → Pt → Prop} (hK : Back l R p e below s args y 3 W Pre Post)
    {g : JFrame} (hg : g.method = m) (hsize : g.locals.size = c.maxLocals) {s₀ : State} (hcome : Steps p.tables e below s₀ (T.setTop g)) {a : Addr} {cell : Cell} (hcell : T.heap[a]? = some cell) (hobj : ∀ q, cell.vm ≠ .statics q)
    {argsL rest : List Value} (hlen : ∀ sig, parseMethodDescriptor y.desc = some sig → argsL.length = sig.parameters.length)
    (hstack : g.stack = argsL.reverse ++ .ref a :: rest) (hW : 2 * g.monitorRoom + (rest.map fun v => v.category).sum ≤ W) (hdg : decode c.code g.pc = .ok (.invokevirtual index, 3))
    {bytes : ByteArray} {maxL : Nat} {ret : Option FieldType} (wc : (Cond.code y bytes maxL ret).before a0 Z = true)
    (hpre : ∀ vm₁, s.WarmedH vm₁ → Pre ⟨T.setVm vm₁, locs, cells, slots⟩ (.ref a :: argsL).toArray) :
    ∃ (v : Option Value) (vm₁ : Vm) (B : Pt), s.WarmedH vm₁ ∧ Stand p l e R s m args below meth c B.U B.locs B.cells B.slots ∧ Post ⟨T.setVm vm₁, locs, cells, slots⟩ (.ref a :: argsL).toArray v B ∧
      Steps p.tables e below s₀ (B.U.setTop { g with pc := g.pc + 3, stack := v.toList ++ rest }) := by
  obtain ⟨mk, methM, hnamed, hmethM, hstM, habM⟩ := Cond.instanceMethod_spec (mvT (args := args) hZ wi)
  obtain ⟨methM', cM, hmethM', -, -, -, -, -, -, hsigM⟩ := Cond.code_spec hnamed (mvT (args := args) hZ wc)
  cases hmethM.symm.trans hmethM'
  have hnZ : Z.methodNamed? y = some mk := by rw [← State.methodNamed?_setVm hZ.alike]; exact hnamed
  obtain ⟨cY, hcY, hnr, hready⟩ := own_mref X hZ hown w hnZ hy
  obtain ⟨cI, kI, i1, i2, -, i4, -, -⟩ := Cond.instantiable_spec (mvT (args := args) hZ wn)
  have hfc := findClass_of_methodNamed hnamed
  cases i1.symm.trans hfc
  have hni : kI.isInterface = false := by
    cases hk : kI.isInterface with
    | false => rfl
    | true => simp [hk] at i4
  have al := X.warmed.alike
  have hcY' : cY = mk.cls := by
    rw [al.findClass, hfc] at hcY
    exact (Option.some.inj hcY).symm
  subst hcY'
  obtain ⟨kx, hkx, hnx⟩ := className_of_methodNamed hnamed
  cases i2.symm.trans hkx
  obtain ⟨k2, hk2, he2⟩ := al.2.2 _ _ i2
  have hpriv : s.PrivateAt y := Cond.privateMethod_at (mvP hZ wp (args := #[]))
  have hsel : selectMethod e.platform s.vm cell.cls mk = .method mk := selectMethod_private hmethM (hpriv mk methM hnamed hmethM)
  have hm2 : T.vm.method? mk = some methM := by rw [al.method?]; exact hmethM
  have hstep : ∀ target, (∀ acts, Steps p.tables e below (doInvoke e (T.setTop { g with stack := rest }) acts mk (.ref a :: argsL).toArray).1 target) → Steps p.tables e below (T.setTop g) target := by
    intro target hrest
    subst hg
    jvm_step X.here [hx, hdg, invokevirtual.wp_named (e := e) (s := T) (f := g) (r := mk) (m := mk) (c' := mk.cls) (k := k2) (k' := k2) (mk := k2) (rmeth := methM) (meth := methM) (a := a) (args := argsL) (rest := rest) (cell := cell)
      X.here.top hnr hk2 (by rw [he2]; exact hni) hready hk2 hm2 (by rw [he2]; simp [signaturePolymorphic, hnx, hy.1, hy.2]) hstM (hlen _ hsigM) hstack hcell hobj
      (by rw [al.selectMethod]; exact hsel) hm2 habM hk2 (by rw [he2]; exact hni)]
    exact hrest
  obtain ⟨v, B, X', hpost, hsteps⟩ := hK m meth c ⟨T, locs, cells, slots⟩ { g with stack := rest } (.invokevirtual index) mk (Value.ref a :: argsL).toArray X hg hsize hdg hW (X.named hnamed) (show Pre ⟨T, locs, cells, slots⟩ (Value.ref a :: argsL).toArray from hpre T.vm X.warmed)
  exact ⟨v, T.vm, B, X.warmed, X', hpost, (hcome.trans (hstep _ fun acts => by rw [doInvoke_state]; exact Steps.refl _)).trans hsteps⟩
/-- a private constructor of a nest mate by its contract, the entry being resolved -/
theorem own_initR (X : Stand p l e R s m args below meth c T locs cells slots) (hx : p.tables.exec = Jvm.exec) (hZ : Z.Warmed39 s.vm) {own : String} {index : Nat} {y : MethodName} (hy1 : y.name = "<init>") (hown : s.vm.findClass own = some m.cls) (w : (Cond.methodRef own index y).before a0 Z = true)
    (wi : (Cond.instanceMethod y).before a0 Z = true) (hy : y.cls ≠ "java/lang/invoke/MethodHandle" ∧ y.cls ≠ "java/lang/invoke/VarHandle")
    {W : Nat} {Pre : Pt → Array Value → Prop} {Post : Pt → Array Value → Option Value → Pt → Prop} (hK : Back l R p e below s args y 3 W Pre Post)
    {g : JFrame} (hg : g.method = m) (hsize : g.locals.size = c.maxLocals) {s₀ : State} (hcome : Steps p.tables e below s₀ (T.setTop g)) {a : Addr}
    {argsL rest : List Value} (hlen : ∀ sig, parseMethodDescriptor y.desc = some sig → argsL.length = sig.parameters.length)
    (hstack : g.stack = argsL.reverse ++ .ref a :: rest) (hW : 2 * g.monitorRoom + (rest.map fun v => v.category).sum ≤ W) (hdg : decode c.code g.pc = .ok (.invokespecial index, 3))
    {bytes : ByteArray} {maxL : Nat} {ret : Option FieldType} (wc : (Cond.code y bytes maxL ret).before a0 Z = true)
    (hpre : ∀ vm₁, s.WarmedH vm₁ → Pre ⟨T.setVm vm₁, locs, cells, slots⟩ (.ref a :: argsL).toArray) :
    ∃ (v : Option Value) (vm₁ : Vm) (B : Pt), s.WarmedH vm₁ ∧ Stand p l e R s m args below meth c B.U B.locs B.cells B.slots ∧ Post ⟨T.setVm vm₁, locs, cells, slots⟩ (.ref a :: argsL).toArray v B ∧
      Steps p.tables e below s₀ (B.U.setTop { g with pc := g.pc + 3, stack := v.toList ++ rest }) := by
  obtain ⟨mk, methM, hnamed, hmethM, hstM, habM⟩ := Cond.instanceMethod_spec (mvT (args := args) hZ wi)
  obtain ⟨methM', cM, hmethM', -, -, -, -, -, -, hsigM⟩ := Cond.code_spec hnamed (mvT (args := args) hZ wc)
  cases hmethM.symm.trans hmethM'
  have hnZ : Z.methodNamed? y = some mk := by rw [← State.methodNamed?_setVm hZ.alike]; exact hnamed
  obtain ⟨cY, hcY, hnr, hready⟩ := own_mref X hZ hown w hnZ hy
  have hfc := findClass_of_methodNamed hnamed
  have al := X.warmed.alike
  have hcY' : cY = mk.cls := by
    rw [al.findClass, hfc] at hcY
    exact (Option.some.inj hcY).symm
  subst hcY'
  obtain ⟨kx, hkx, hnx⟩ := className_of_methodNamed hnamed
  obtain ⟨k2, hk2, he2⟩ := al.2.2 _ _ hkx
  have hm2 : T.vm.method? mk = some methM := by rw [al.method?]; exact hmethM
  obtain ⟨hname, hdesc⟩ := name_of_methodNamed hnamed hmethM
  have hstep : ∀ target, (∀ acts, Steps p.tables e below (doInvoke e (T.setTop { g with stack := rest }) acts mk (.ref a :: argsL).toArray).1 target) → Steps p.tables e below (T.setTop g) target := by
    intro target hrest
    subst hg
    jvm_step X.here [hx, hdg, invokespecial.wp_init (e := e) (s := T) (f := g) (m := mk) (k := k2) (meth := methM) (a := a) (args := argsL) (rest := rest)
      X.here.top hnr hready hk2 hm2 (hname.trans hy1) hstM habM (by rw [al.lookupSpecial, hdesc, ← hy1]; exact lookupSpecial_of_named hnamed hmethM hstM) (hlen _ hsigM) hstack]
    exact hrest
  obtain ⟨v, B, X', hpost, hsteps⟩ := hK m meth c ⟨T, locs, cells, slots⟩ { g with stack := rest } (.invokespecial index) mk (Value.ref a :: argsL).toArray X hg hsize hdg hW (X.named hnamed) (show Pre ⟨T, locs, cells, slots⟩ (Value.ref a :: argsL).toArray from hpre T.vm X.warmed)
  exact ⟨v, T.vm, B, X.warmed, X', hpost, (hcome.trans (hstep _ fun acts => by rw [doInvoke_state]; exact Steps.refl _)).trans hsteps⟩
/-- a field of a nest mate is written, the entry being resolved; the field isn't final -/
theorem own_putFR (X : Stand p l e R s m args below meth c T locs cells slots) (hx : p.tables.exec = Jvm.exec) (hZ : Z.Warmed39 s.vm) {own O n d C : String} {index kk : Nat} {ty : FieldType} (hown : s.vm.findClass own = some m.cls) (w : (Cond.fieldRef own index O n d).before a0 Z = true)
    (eT : T.heap = h) {a : Addr} {v old : Value} (F : Fld Z h a O n d old) (E : Exa Z h a C) (L : (Cond.lays C O n d).before a0 Z = true) (wi : (Cond.instantiable C kk).before a0 Z = true)
    (hty : parseFieldDescriptor d = some ty) (hn : narrow ty v = v) (hf : fits ty v = true) {g : JFrame} (hg : g.method = m) {rest : List Value} (hs : g.stack = v :: .ref a :: rest) (hd : decode c.code g.pc = .ok (.putfield index, 3)) :
    ∃ T' h', Stand p l e R s m args below meth c T' (locs ++ [⟨a, slotOf Z O n d⟩]) cells slots ∧ T'.heap = h' ∧ Wr h h' a (slotOf Z O n d) v ∧ ∀ target, Steps p.tables e below (T'.setTop { g with pc := g.pc + 3, stack := rest }) target → Steps p.tables e below (T.setTop g) target := by
  obtain ⟨cell, cf, k, i, f, h1, h2, h3, h4, h5, h6, h7⟩ := F
  obtain ⟨cell', kc, e1, e2, e3, e4, e5⟩ := E
  cases h1.symm.trans e1
  obtain ⟨c1, k1, cf1, kf1, i1, f1, a1, a2, a3, a4, a5, a6, a7, -⟩ := Cond.lays_spec L
  cases h2.symm.trans a3
  cases e2.symm.trans a1
  cases e3.symm.trans a2
  obtain ⟨c2, k2, j1, j2, j3, -⟩ := Cond.instantiable_spec wi
  cases e2.symm.trans j1
  cases e3.symm.trans j2
  have hft := (State.fieldFound?_type h2 hty).2
  have hr := own_fref X hZ hown w h2
  have hlt : f.slot < cell.slots.size := (Array.getElem?_eq_some_iff.mp h7).1
  have hst : cell.vm.isStatics = false := e4
  have hq : Z.slotType? cell.cls cell.vm f.slot = some ty := by
    simp only [State.slotType?, e3, Option.bind_eq_bind, Option.bind_some, j3]
    cases hv : cell.vm <;> first | (rw [hv] at hst; exact Bool.noConfusion hst) | (rw [a7, hft])
  have hfit : Z.fitsSlot cell.cls cell.vm f.slot v = true := by simp [State.fitsSlot, hq, hf]
  have hT : Z.Warmed39 T.vm := wtrans hZ X.warmed
  have hfitT : T.fitsSlot cell.cls cell.vm f.slot v = true := by
    have := hfit
    rw [← State.fitsSlot_setVm hT.alike] at this
    exact this
  have hsl : slotOf Z O n d = f.slot := by simp [slotOf, h2]
  obtain ⟨X', st⟩ := X.putfieldReady hx hr h3 (Or.inl a5) (show T.heap[a]? = some cell by rw [eT]; exact h1) h4 hlt (by rw [hft]; exact hn) hfitT hg hs hd
  rw [hsl]
  exact ⟨_, _, X', rfl, ⟨cell, h1, hst, hlt, by subst eT; rfl⟩, st⟩
end Refs
end Jvm.RoadKit
namespace Jvm.RoadKit
open Sem ClassFile Op Lib Jvm.Stand Jvm.Free Jvm.LawKit
section Sync
variable {p : Program} {l : Launch} {e : Env} {R : Room} {s : State} {m : MethodId} {args : Array Value} {below : List Frame} {meth : Method} {c : Code} {T : State} {locs : List Loc} {cells slots : Nat} {Z : State} {a0 : Array Value} {h h' : Heap}
theorem own_sigC {y : MethodName} {bytes : ByteArray} {maxL : Nat} {ret : Option FieldType} (wc : (Cond.code y bytes maxL ret).before args s = true) : ∀ mk methM, s.methodNamed? y = some mk → s.vm.method? mk = some methM → parseMethodDescriptor y.desc = some methM.sig := fun mk mm hn hm => by
  obtain ⟨m2, c2, q1, -, -, -, -, -, -, hs⟩ := Cond.code_spec hn wc
  cases hm.symm.trans q1
  exact hs
theorem own_sigS {y : MethodName} {bytes : ByteArray} {maxL : Nat} {ret : Option FieldType} (wc : (Cond.codeSync y bytes maxL ret).before args s = true) : ∀ mk methM, s.methodNamed? y = some mk → s.vm.method? mk = some methM → parseMethodDescriptor y.desc = some methM.sig := fun mk mm hn hm => by
  obtain ⟨m2, c2, q1, -, -, -, -, -, -, hs⟩ := Cond.codeSync_spec hn wc
  cases hm.symm.trans q1
  exact hs
/-- a private method by its contract, whatever its entry word is; 'selects' of any class below it -/
theorem own_privG (X : Stand p l e R s m args below meth c T locs cells slots) (hx : p.tables.exec = Jvm.exec) {own C : String} {index : Nat} {y : MethodName} (hown : s.vm.findClass own = some m.cls) (hlink : (Cond.methodLink own index y).before args s = true)
    (hinst : (Cond.instanceMethod y).before args s = true) (hsel : (Cond.selects C y y).before args s = true) (hpriv : s.PrivateAt y) (hsig : ∀ mk methM, s.methodNamed? y = some mk → s.vm.method? mk = some methM → parseMethodDescriptor y.desc = some methM.sig)
    (hy : y.cls ≠ "java/lang/invoke/MethodHandle" ∧ y.cls ≠ "java/lang/invoke/VarHandle") {W : Nat} {Pre : Pt → Array Value → Prop} {Post : Pt → Array Value → Option Value → Pt → Prop} (hK : Back l R p e below s args y 3 W Pre Post)
    {g : JFrame} (hg : g.method = m) (hsize : g.locals.size = c.maxLocals) {s₀ : State} (hcome : Steps p.tables e below s₀ (T.setTop g)) {a : Addr} {cell : Cell} (hcell : T.heap[a]? = some cell) (hobj : ∀ q, cell.vm ≠ .statics q)
    {argsL rest : List Value} (hlen : ∀ sig, parseMethodDescriptor y.desc = some sig → argsL.length = sig.parameters.length)
    (hstack : g.stack = argsL.reverse ++ .ref a :: rest) (hW : 2 * g.monitorRoom + (rest.map fun v => v.category).sum ≤ W) (hdg : decode c.code g.pc = .ok (.invokevirtual index, 3))
    (hpre : ∀ vm₁, s.WarmedH vm₁ → Pre ⟨T.setVm vm₁, locs, cells, slots⟩ (.ref a :: argsL).toArray) :
    ∃ (v : Option Value) (vm₁ : Vm) (B : Pt), s.WarmedH vm₁ ∧ Stand p l e R s m args below meth c B.U B.locs B.cells B.slots ∧ Post ⟨T.setVm vm₁, locs, cells, slots⟩ (.ref a :: argsL).toArray v B ∧
      Steps p.tables e below s₀ (B.U.setTop { g with pc := g.pc + 3, stack := v.toList ++ rest }) := by
  obtain ⟨mk, methM, hnamed, hmethM, hstM, habM⟩ := Cond.instanceMethod_spec hinst
  have hsigM := hsig mk methM hnamed hmethM
  obtain ⟨c2, r2, m2, -, -, q3, -, kP, hkP, hkPi⟩ := Cond.selects_spec hsel
  cases hnamed.symm.trans q3
  have hselP : selectMethod e.platform s.vm cell.cls mk = .method mk := selectMethod_private hmethM (hpriv mk methM hnamed hmethM)
  obtain ⟨vm₁, X₁, hstep₁⟩ := X.invokevirtual hx hown hlink hnamed hmethM hstM hkP hkPi hy (a := a) (cell := cell) hcell hobj hselP hmethM habM hkP hkPi (g := g) hg (argsL := argsL) (rest := rest) (hlen _ hsigM) hstack hdg
  obtain ⟨v, B, X', hpost, hsteps⟩ := hK m meth c ⟨T.setVm vm₁, locs, cells, slots⟩ { g with stack := rest } (.invokevirtual index) mk (.ref a :: argsL).toArray X₁ hg hsize hdg hW (X₁.named hnamed) (hpre vm₁ X₁.warmed)
  exact ⟨v, vm₁, B, X₁.warmed, X', hpost, (hcome.trans (hstep₁ _ fun acts => by rw [doInvoke_state]; exact Steps.refl _)).trans hsteps⟩
/-- the payer of a synchronized method, in backOf's shape; the receiver's monitor is free -/
theorem own_backS {y : MethodName} {bytes : ByteArray} {maxL : Nat} {ret : Option FieldType} {rm : Room} {len W : Nat} {as' : Array Value} {a : Addr} {Q : Option Value → Heap → List Loc → Prop}
    (hM : MetFree l y (head1 [Cond.codeSync y bytes maxL ret, Cond.instanceMethod y] rm) (fun as U => as = as' ∧ Z.Warmed39 U.vm ∧ U.heap = h ∧ ∃ cell : Cell, h[a]? = some cell ∧ cell.enterable U.cur) (fun _ _ _ _ _ => True) (fun _ U o U' => ∃ v L, o = .returned v ∧ Q v U'.heap L ∧ FrameEnd U o U' L rm.cells rm.slots))
    (hZ : Z.Warmed39 s.vm) (wc : (Cond.codeSync y bytes maxL ret).before a0 Z = true) (wi : (Cond.instanceMethod y).before a0 Z = true) (wz : (Cond.initialized y.cls).before a0 Z = true) (N : Unt h a) (hf : rm.frames + 1 ≤ R.frames) (hl : W + (maxL + 11) + rm.locals ≤ R.locals) :
    Back l R p e below s args y len W (fun A as => as = as' ∧ A.U.heap = h ∧ A.cells + rm.cells ≤ R.cells ∧ A.slots + rm.slots ≤ R.slots)
      (fun A _ v B => ∃ L, Q v B.U.heap L ∧ B.locs = A.locs ++ L ∧ B.cells = A.cells + rm.cells ∧ B.slots = A.slots + rm.slots) :=
  Jvm.Free.XT.back_of_sync (bytes := bytes) (maxL := maxL) (ret := ret) (E := fun _ _ o t L k n => k = rm.cells ∧ n = rm.slots ∧ ∃ v, o = .returned v ∧ Q v t.heap L) hM hf hl
    (fun m meth c A as Y hp => have hU : Z.Warmed39 A.U.vm := wtrans hZ Y.warmed
      ⟨by show (Cond.and _ (Cond.and _ .tt)).before as A.U = true; rw [Cond.before_and, Cond.before_and, mv hU wc, mv hU wi]; rfl, mv hU wc, mv hU wz, hp.2.2.1, hp.2.2.2⟩)
    (fun m meth c A as g mk Y hp => ⟨hp.1, wtrans hZ Y.warmed, hp.2.1, by obtain ⟨cl, u1, -, u3⟩ := N; exact ⟨cl, u1, by rw [Cell.enterable, u3]; simp⟩⟩)
    (fun _ _ _ _ _ _ _ _ _ => trivial)
    (fun _ _ _ _ ⟨v, L, h1, h2, h3⟩ => ⟨L, _, _, h3, rfl, rfl, v, h1, h2⟩)
    (fun m meth c A as g mk v t L k n Y hp _ _ ⟨e1, e2, v', e3, e4⟩ => by cases e3; subst e1 e2; exact ⟨L, e4, rfl, rfl, rfl⟩)
theorem own_sameDecl {y x z : MethodName} {C : String} (hd : (Cond.declares y).before a0 Z = true) (hs : (Cond.selects C x z).before a0 Z = true) (hz : z.cls = y.cls) (hy : y.cls ≠ "java/lang/invoke/MethodHandle" ∧ y.cls ≠ "java/lang/invoke/VarHandle") : (Cond.sameMethod y.cls y.cls y.name y.desc).before a0 Z = true := by
  obtain ⟨m, meth, hn, -⟩ := Cond.declares_spec hd
  obtain ⟨c, r, m2, -, -, h3, -, mk, h4, h5⟩ := Cond.selects_spec hs
  have hf := State.methodFound?_of_named hn hy
  have hc := findClass_of_methodNamed hn
  have hc2 := findClass_of_methodNamed h3
  rw [hz] at hc2
  have e : m2.cls = m.cls := Option.some.inj (hc2.symm.trans hc)
  rw [e] at h4
  obtain ⟨yc, yn, yd⟩ := y
  simp only at hf hc
  simp [Cond.before, Cond.holds, Cond.value, hc, hf, hn, h4, h5]
theorem own_arvMon {b : Addr} {k : ClassId} {ty : FieldType} {z : Int32} {vs : List Value} {d : Value} (W : Mon h h') (F : Arv Z h b k ty z vs d) : Arv Z h' b k ty z vs d := by
  obtain ⟨c, A, r⟩ := F
  obtain ⟨mo, q⟩ := W.2 _ _ A.1
  exact ⟨_, ⟨q, A.2.1, A.2.2⟩, r⟩
theorem own_oldSet {n0 : Nat} {a : Addr} {c : Cell} (O : Old Z n0 h) (hn : n0 ≤ a) : Old Z n0 (h.setIfInBounds a c) :=
  ⟨O.1, by rw [Array.size_setIfInBounds]; exact O.2.1, fun x d q => by
    have h1 : x < n0 := O.1 ▸ (Array.getElem?_eq_some_iff.mp q).1
    rw [Array.getElem?_setIfInBounds_ne (fun z => absurd (Nat.lt_of_lt_of_le h1 hn) (by rw [z]; exact Nat.lt_irrefl _))]
    exact O.2.2 x d q⟩
theorem own_oldEnd {s0 V : State} {n0 : Nat} {L : List Loc} {k n : Nat} (hs : s0.sameButNew { V with vm := s0.vm } L k n) (N : Fr n0 L) (O : Old Z n0 s0.heap) : Old Z n0 V.heap :=
  ⟨O.1, Nat.le_trans O.2.1 hs.2.1, fun x d q => by
    have h1 : x < n0 := O.1 ▸ (Array.getElem?_eq_some_iff.mp q).1
    obtain ⟨c', hc', he, hsz, hsl⟩ := hs.2.2.2.2.2 x d (O.2.2 x d q)
    have h2 : c'.slots = d.slots := Array.ext (by rw [hsz]) (fun i i1 i2 => by
      have := hsl i (fun z => absurd h1 (Nat.not_lt.mpr (N _ z)))
      rw [Array.getElem?_eq_getElem i1, Array.getElem?_eq_getElem i2] at this
      exact Option.some.inj this)
    have h3 : c' = d := by rw [he, h2]
    rw [← h3]; exact hc'⟩
theorem own_untEnd {s0 V : State} {a : Addr} {L : List Loc} {k n : Nat} (hs : s0.sameButNew { V with vm := s0.vm } L k n) (U : Unt s0.heap a) : Unt V.heap a := by
  obtain ⟨d, q, r1, r2⟩ := U
  obtain ⟨c', hc', he, -⟩ := hs.2.2.2.2.2 a d q
  refine ⟨c', hc', ?_, ?_⟩
  · rw [he]; exact r1
  · rw [he]; exact r2
end Sync
end Jvm.RoadKit
namespace Jvm.RoadKit
open Sem ClassFile Op Lib Jvm.Stand Jvm.Free Jvm.LawKit
theorem own_notFace {s : State} {args : Array Value} {C : String} {x y z : MethodName} (hs : (Cond.selects C x z).before args s = true) (hz : z.cls = y.cls) : NotFace s y := fun r0 h0 => by
  obtain ⟨c, r, m2, -, -, h3, -, mk, h4, h5⟩ := Cond.selects_spec hs
  have hc := findClass_of_methodNamed h0
  have hc2 := findClass_of_methodNamed h3
  rw [hz] at hc2
  have e : m2.cls = r0.cls := Option.some.inj (hc2.symm.trans hc)
  rw [e] at h4
  exact ⟨mk, h4, h5⟩
end Jvm.RoadKit
namespace Jvm.RoadKit
open Sem ClassFile Op Lib Jvm.Stand Jvm.Free Jvm.LawKit
section Cps
variable {p : Program} {l : Launch} {e : Env} {R : Room} {s : State} {m : MethodId} {args : Array Value} {below : List Frame} {meth : Method} {c : Code} {T : State} {locs : List Loc} {cells slots : Nat} {Z : State} {a0 : Array Value} {h : Heap} {Post : Outcome → State → Prop} {pc : Nat} {Ls : Array Slot} {st : List Value}
theorem own_st (q : Nat) (st' : List Value) (h1 : ∀ t, Steps p.tables e below (T.setTop (mkF m q Ls st')) t → Steps p.tables e below (T.setTop (mkF m pc Ls st)) t) (k : own_Fin p.tables e below Post (T.setTop (mkF m q Ls st'))) : own_Fin p.tables e below Post (T.setTop (mkF m pc Ls st)) := own_Fin.step h1 k
theorem own_sl (q : Nat) (Ls' : Array Slot) (st' : List Value) (h1 : ∀ t, Steps p.tables e below (T.setTop (mkF m q Ls' st')) t → Steps p.tables e below (T.setTop (mkF m pc Ls st)) t) (k : own_Fin p.tables e below Post (T.setTop (mkF m q Ls' st'))) : own_Fin p.tables e below Post (T.setTop (mkF m pc Ls st)) := own_Fin.step h1 k
theorem own_sT {T' : State} (q : Nat) (st' : List Value) (h1 : ∀ t, Steps p.tables e below (T'.setTop (mkF m q Ls st')) t → Steps p.tables e below (T.setTop (mkF m pc Ls st)) t) (k : own_Fin p.tables e below Post (T'.setTop (mkF m q Ls st'))) : own_Fin p.tables e below Post (T.setTop (mkF m pc Ls st)) := own_Fin.step h1 k
theorem own_nO (X : Stand p l e R s m args below meth c T locs cells slots) (hx : p.tables.exec = Jvm.exec) (hZ : Z.Warmed39 s.vm) {own C : String} {index n : Nat} (hown : s.vm.findClass own = some m.cls) (w : (Cond.classLink own index C).before a0 Z = true) (wi : (Cond.instantiable C n).before a0 Z = true) (wz : (Cond.initialized C).before a0 Z = true) (eT : T.heap = h)
    (q : Nat) (hd : decode c.code pc = .ok (.new index, 3)) (hq : pc + 3 = q) (hc : cells + 1 ≤ R.cells) (hl : slots + n ≤ R.slots)
    (k : ∀ T' h' b, b = h.size → Stand p l e R s m args below meth c T' locs (cells + 1) (slots + n) → T'.heap = h' → Ext h h' → Exa Z h' b C → (∀ {O nm d : String} {ty : FieldType}, Laid Z a0 C O nm d → parseFieldDescriptor d = some ty → Fld Z h' b O nm d (defaultValue ty)) → Unt h' b → own_Fin p.tables e below Post (T'.setTop (mkF m q Ls (.ref b :: st)))) : own_Fin p.tables e below Post (T.setTop (mkF m pc Ls st)) := by
  subst hq
  obtain ⟨T', h', X', e', E', A', D', U', t⟩ := newO X hx hZ hown w wi wz eT (g := mkF m pc Ls st) rfl hd hc hl
  exact own_Fin.step t (k T' h' _ rfl X' e' E' A' D' U')
theorem own_nP (X : Stand p l e R s m args below meth c T locs cells slots) (hx : p.tables.exec = Jvm.exec) (hZ : Z.Warmed39 s.vm) {aty : ArrayType} (w : (Cond.arrayClass (newarray.typeOf aty)).before a0 Z = true) (eT : T.heap = h) (q : Nat) (hd : decode c.code pc = .ok (.newarray aty, 2)) (hq : pc + 2 = q) {n : Int32} {rest : List Value} (hs : st = .int n :: rest)
    (hn : ¬ n < 0) {cap : Nat} (hcap : n.toNatClampNeg ≤ cap) (hb : cap * 8 ≤ 536870912) (hc : cells + 1 ≤ R.cells) (hl : slots + cap ≤ R.slots) {ad : String} (had : "[" ++ (newarray.typeOf aty).toString = ad)
    (k : ∀ T' h' cA b, b = h.size → Stand p l e R s m args below meth c T' locs (cells + 1) (slots + cap) → T'.heap = h' → Ext h h' → Arr Z h' b (newA cA (newarray.typeOf aty) n) (newarray.typeOf aty) → Exa Z h' b ad → own_Fin p.tables e below Post (T'.setTop (mkF m q Ls (.ref b :: rest)))) : own_Fin p.tables e below Post (T.setTop (mkF m pc Ls st)) := by
  subst hq hs
  obtain ⟨T', h', cA, X', e', E', A', B', t⟩ := newPE X hx hZ w eT (g := mkF m pc Ls (.int n :: rest)) rfl hd rfl hn hcap hb hc hl had
  exact own_Fin.step t (k T' h' cA _ rfl X' e' E' A' B')
theorem own_nR (X : Stand p l e R s m args below meth c T locs cells slots) (hx : p.tables.exec = Jvm.exec) (hZ : Z.Warmed39 s.vm) {own C : String} {index : Nat} (hown : s.vm.findClass own = some m.cls) (w1 : (Cond.classLink own index C).before a0 Z = true) (w2 : (Cond.arrayOver (.object C)).before a0 Z = true)
    (eT : T.heap = h) (q : Nat) (hd : decode c.code pc = .ok (.anewarray index, 3)) (hq : pc + 3 = q) {n : Int32} {rest : List Value} (hs : st = .int n :: rest) (hn : ¬ n < 0) {cap : Nat} (hcap : n.toNatClampNeg ≤ cap) (hb : cap * 8 ≤ 536870912) (hc : cells + 1 ≤ R.cells) (hl : slots + cap ≤ R.slots) {ad : String} (had : "[" ++ (FieldType.object C).toString = ad)
    (k : ∀ T' h' cA b, b = h.size → Stand p l e R s m args below meth c T' locs (cells + 1) (slots + cap) → T'.heap = h' → Ext h h' → Arr Z h' b (newA cA (.object C) n) (.object C) → Exa Z h' b ad → Ovr Z cA C → own_Fin p.tables e below Post (T'.setTop (mkF m q Ls (.ref b :: rest)))) : own_Fin p.tables e below Post (T.setTop (mkF m pc Ls st)) := by
  subst hq hs
  obtain ⟨T', h', cA, X', e', E', A', B', O', t⟩ := newRE X hx hZ hown w1 w2 eT (g := mkF m pc Ls (.int n :: rest)) rfl hd rfl hn hcap hb hc hl had
  exact own_Fin.step t (k T' h' cA _ rfl X' e' E' A' B' O')
theorem own_go (q : Nat) (X : Stand p l e R s m args below meth c T locs cells slots) (hx : p.tables.exec = Jvm.exec) {o : Int} (hd : decode c.code pc = .ok (.goto o, 3)) (ho : 0 ≤ (pc : Int) + o) (hp : ((pc : Int) + o).toNat = q) (k : own_Fin p.tables e below Post (T.setTop (mkF m q Ls st))) : own_Fin p.tables e below Post (T.setTop (mkF m pc Ls st)) :=
  own_Fin.step (fun t r => XS.goto X.here hx rfl (pc0 := pc) (pc' := q) rfl hd ho hp r) k
theorem own_iY (q : Nat) (X : Stand p l e R s m args below meth c T locs cells slots) (hx : p.tables.exec = Jvm.exec) {cd : ClassFile.Cond} {x : Int32} {rest : List Value} {o : Int} (hd : decode c.code pc = .ok (.ifCond cd o, 3)) (hs : st = .int x :: rest) (hc : ifCond.holds cd x = true) (ho : 0 ≤ (pc : Int) + o) (hp : ((pc : Int) + o).toNat = q) (k : own_Fin p.tables e below Post (T.setTop (mkF m q Ls rest))) : own_Fin p.tables e below Post (T.setTop (mkF m pc Ls st)) :=
  own_Fin.step (fun t r => XS.ifYes X.here hx rfl (pc0 := pc) (pc' := q) rfl hd hs hc ho hp r) k
theorem own_iN (q : Nat) (X : Stand p l e R s m args below meth c T locs cells slots) (hx : p.tables.exec = Jvm.exec) {cd : ClassFile.Cond} {x : Int32} {rest : List Value} {o : Int} (hd : decode c.code pc = .ok (.ifCond cd o, 3)) (hs : st = .int x :: rest) (hc : ifCond.holds cd x = false) (hq : pc + 3 = q) (k : own_Fin p.tables e below Post (T.setTop (mkF m q Ls rest))) : own_Fin p.tables e below Post (T.setTop (mkF m pc Ls st)) := by
  subst hq
  exact own_Fin.step (fun t r => XS.ifNo X.here hx rfl hd hs hc r) k
theorem own_kY (q : Nat) (X : Stand p l e R s m args below meth c T locs cells slots) (hx : p.tables.exec = Jvm.exec) {cd : ClassFile.Cond} {x y : Int32} {rest : List Value} {o : Int} (hd : decode c.code pc = .ok (.if_icmp cd o, 3)) (hs : st = .int y :: .int x :: rest) (hc : if_icmp.holds cd x y = true) (ho : 0 ≤ (pc : Int) + o) (hp : ((pc : Int) + o).toNat = q) (k : own_Fin p.tables e below Post (T.setTop (mkF m q Ls rest))) : own_Fin p.tables e below Post (T.setTop (mkF m pc Ls st)) :=
  own_Fin.step (fun t r => XS.icmpYes X.here hx rfl (pc0 := pc) (pc' := q) rfl hd hs hc ho hp r) k
theorem own_kN (q : Nat) (X : Stand p l e R s m args below meth c T locs cells slots) (hx : p.tables.exec = Jvm.exec) {cd : ClassFile.Cond} {x y : Int32} {rest : List Value} {o : Int} (hd : decode c.code pc = .ok (.if_icmp cd o, 3)) (hs : st = .int y :: .int x :: rest) (hc : if_icmp.holds cd x y = false) (hq : pc + 3 = q) (k : own_Fin p.tables e below Post (T.setTop (mkF m q Ls rest))) : own_Fin p.tables e below Post (T.setTop (mkF m pc Ls st)) := by
  subst hq
  exact own_Fin.step (fun t r => XS.icmpNo X.here hx rfl hd hs hc r) k
theorem own_gF (X : Stand p l e R s m args below meth c T locs cells slots) (hx : p.tables.exec = Jvm.exec) (hZ : Z.Warmed39 s.vm) {own R0 O n d host : String} {index : Nat} (hown : s.vm.findClass own = some m.cls) (w : (Cond.fieldLink own index R0 n d).before a0 Z = true ∨ (Cond.fieldLinkNest own index R0 n d host).before a0 Z = true) (via : Via Z R0 O n d) (eT : T.heap = h) {a : Addr} {v : Value} (F : Fld Z h a O n d v) {rest : List Value} (q : Nat) (hs : st = .ref a :: rest) (hd : decode c.code pc = .ok (.getfield index, 3)) (hq : pc + 3 = q)
    (k : ∀ T', Stand p l e R s m args below meth c T' locs cells slots → T'.heap = h → own_Fin p.tables e below Post (T'.setTop (mkF m q Ls (v :: rest)))) : own_Fin p.tables e below Post (T.setTop (mkF m pc Ls st)) := by
  subst hq hs
  obtain ⟨T', a', b', t⟩ := getF X hx hZ hown w via eT F (g := mkF m pc Ls (.ref a :: rest)) rfl rfl hd
  exact own_Fin.step t (k T' a' b')
theorem own_gR (X : Stand p l e R s m args below meth c T locs cells slots) (hx : p.tables.exec = Jvm.exec) (hZ : Z.Warmed39 s.vm) {own O R0 n d : String} {index : Nat} (hown : s.vm.findClass own = some m.cls) (w : (Cond.fieldRef own index R0 n d).before a0 Z = true) (via : Via Z R0 O n d) (eT : T.heap = h) {a : Addr} {v : Value} (F : Fld Z h a O n d v) {rest : List Value} (q : Nat) (hs : st = .ref a :: rest) (hd : decode c.code pc = .ok (.getfield index, 3)) (hq : pc + 3 = q)
    (k : ∀ T', Stand p l e R s m args below meth c T' locs cells slots → T'.heap = h → own_Fin p.tables e below Post (T'.setTop (mkF m q Ls (v :: rest)))) : own_Fin p.tables e below Post (T.setTop (mkF m pc Ls st)) := by
  subst hq hs
  obtain ⟨T', a', b', t⟩ := own_getFR X hx hZ hown w via eT F (g := mkF m pc Ls (.ref a :: rest)) rfl rfl hd
  exact own_Fin.step t (k T' a' b')
theorem own_gS (X : Stand p l e R s m args below meth c T locs cells slots) (hx : p.tables.exec = Jvm.exec) (hZ : Z.Warmed39 s.vm) {own R0 O n d host : String} {index : Nat} (hown : s.vm.findClass own = some m.cls) (w : (Cond.fieldLink own index R0 n d).before a0 Z = true ∨ (Cond.fieldLinkNest own index R0 n d host).before a0 Z = true) (via : Via Z R0 O n d) (eT : T.heap = h) {v : Value} (F : Sta Z h O n d v) (q : Nat) (hd : decode c.code pc = .ok (.getstatic index, 3)) (hq : pc + 3 = q)
    (k : ∀ T', Stand p l e R s m args below meth c T' locs cells slots → T'.heap = h → own_Fin p.tables e below Post (T'.setTop (mkF m q Ls (v :: st)))) : own_Fin p.tables e below Post (T.setTop (mkF m pc Ls st)) := by
  subst hq
  obtain ⟨T', a', b', t⟩ := getS2 X hx hZ hown w via eT F (g := mkF m pc Ls st) rfl hd
  exact own_Fin.step t (k T' a' b')
theorem own_ca (X : Stand p l e R s m args below meth c T locs cells slots) (hx : p.tables.exec = Jvm.exec) (hZ : Z.Warmed39 s.vm) {own K : String} {index : Nat} (hown : s.vm.findClass own = some m.cls) (w : (Cond.classLink own index K).before a0 Z = true) (eT : T.heap = h) {a : Addr} (F : Ins Z h a K true) {rest : List Value} (q : Nat) (hs : st = .ref a :: rest) (hd : decode c.code pc = .ok (.checkcast index, 3)) (hq : pc + 3 = q)
    (k : ∀ T', Stand p l e R s m args below meth c T' locs cells slots → T'.heap = h → own_Fin p.tables e below Post (T'.setTop (mkF m q Ls (.ref a :: rest)))) : own_Fin p.tables e below Post (T.setTop (mkF m pc Ls st)) := by
  subst hq hs
  obtain ⟨T', a', b', t⟩ := castY X hx hZ hown w eT F (g := mkF m pc Ls (.ref a :: rest)) rfl rfl hd
  exact own_Fin.step t (k T' a' b')
theorem own_iO (X : Stand p l e R s m args below meth c T locs cells slots) (hx : p.tables.exec = Jvm.exec) (hZ : Z.Warmed39 s.vm) {own : String} {idx : Nat} (hown : s.vm.findClass own = some m.cls) (w1 : (Cond.methodLink own idx Lib.objectInit).before a0 Z = true) (w2 : (Cond.instanceMethod Lib.objectInit).before a0 Z = true) (w3 : (Cond.code Lib.objectInit ⟨#[0xb1]⟩ 1 none).before a0 Z = true) (eT : T.heap = h) {a : Addr} {rest : List Value} (q W : Nat) (hsz : Ls.size = c.maxLocals) (hs : st = .ref a :: rest) (hd : decode c.code pc = .ok (.invokespecial idx, 3)) (hq : pc + 3 = q) (hf : 1 ≤ R.frames) (hW : 2 * 0 + (rest.map fun v => v.category).sum = W) (hl : W + 12 ≤ R.locals)
    (k : ∀ T', Stand p l e R s m args below meth c T' locs cells slots → T'.heap = h → own_Fin p.tables e below Post (T'.setTop (mkF m q Ls (rest)))) : own_Fin p.tables e below Post (T.setTop (mkF m pc Ls st)) := by
  subst hq hs
  obtain ⟨T', a', b', t⟩ := initO X hx hZ hown w1 w2 w3 eT (g := mkF m pc Ls (.ref a :: rest)) rfl hsz rfl hd hf (W := W) (Nat.le_of_eq hW) hl
  exact own_Fin.step t (k T' a' b')
theorem own_pF (X : Stand p l e R s m args below meth c T locs cells slots) (hx : p.tables.exec = Jvm.exec) (hZ : Z.Warmed39 s.vm) {own R0 O n d host C : String} {index kk : Nat} {ty : FieldType} (hown : s.vm.findClass own = some m.cls) (w : (Cond.fieldLink own index R0 n d).before a0 Z = true ∨ (Cond.fieldLinkNest own index R0 n d host).before a0 Z = true) (via : Via Z R0 O n d) (eT : T.heap = h) {a : Addr} {v old : Value} (F : Fld Z h a O n d old) (E : Exa Z h a C) (L : (Cond.lays C O n d).before a0 Z = true ∨ ((Cond.laysFinal C O n d).before a0 Z = true ∧ own = O ∧ meth.name = "<init>")) (wi : (Cond.instantiable C kk).before a0 Z = true) (hty : parseFieldDescriptor d = some ty) (hn : narrow ty v = v) (hf : fits ty v = true) {rest : List Value} (q : Nat) (hs : st = v :: .ref a :: rest) (hd : decode c.code pc = .ok (.putfield index, 3)) (hq : pc + 3 = q)
    (k : ∀ T' h', Stand p l e R s m args below meth c T' (locs ++ [⟨a, slotOf Z O n d⟩]) cells slots → T'.heap = h' → Wr h h' a (slotOf Z O n d) v → own_Fin p.tables e below Post (T'.setTop (mkF m q Ls rest))) : own_Fin p.tables e below Post (T.setTop (mkF m pc Ls st)) := by
  subst hq hs
  obtain ⟨T', h', a', b', c', t⟩ := putF X hx hZ hown w via eT F E L wi hty hn hf (g := mkF m pc Ls (v :: .ref a :: rest)) rfl rfl hd
  exact own_Fin.step t (k T' h' a' b' c')
theorem own_pN (X : Stand p l e R s m args below meth c T locs cells slots) (hx : p.tables.exec = Jvm.exec) (hZ : Z.Warmed39 s.vm) {own R0 O n d C : String} {index kk : Nat} {ty : FieldType} (hown : s.vm.findClass own = some m.cls) (w : (Cond.fieldLink own index R0 n d).before a0 Z = true) (via : Via Z R0 O n d) (eT : T.heap = h) {a : Addr} {v v' old : Value} (F : Fld Z h a O n d old) (E : Exa Z h a C) (L : (Cond.lays C O n d).before a0 Z = true ∨ ((Cond.laysFinal C O n d).before a0 Z = true ∧ own = O ∧ meth.name = "<init>")) (wi : (Cond.instantiable C kk).before a0 Z = true) (hty : parseFieldDescriptor d = some ty) (hn : narrow ty v = v') (hf : fits ty v' = true) {rest : List Value} (q : Nat) (hs : st = v :: .ref a :: rest) (hd : decode c.code pc = .ok (.putfield index, 3)) (hq : pc + 3 = q)
    (k : ∀ T' h', Stand p l e R s m args below meth c T' (locs ++ [⟨a, slotOf Z O n d⟩]) cells slots → T'.heap = h' → Wr h h' a (slotOf Z O n d) v' → own_Fin p.tables e below Post (T'.setTop (mkF m q Ls rest))) : own_Fin p.tables e below Post (T.setTop (mkF m pc Ls st)) := by
  subst hq hs
  obtain ⟨T', h', a', b', c', t⟩ := putFN X hx hZ hown w via eT F E L wi hty hn hf (g := mkF m pc Ls (v :: .ref a :: rest)) rfl rfl hd
  exact own_Fin.step t (k T' h' a' b' c')
theorem own_pR (X : Stand p l e R s m args below meth c T locs cells slots) (hx : p.tables.exec = Jvm.exec) (hZ : Z.Warmed39 s.vm) {own O n d C : String} {index kk : Nat} {ty : FieldType} (hown : s.vm.findClass own = some m.cls) (w : (Cond.fieldRef own index O n d).before a0 Z = true) (eT : T.heap = h) {a : Addr} {v old : Value} (F : Fld Z h a O n d old) (E : Exa Z h a C) (L : (Cond.lays C O n d).before a0 Z = true) (wi : (Cond.instantiable C kk).before a0 Z = true) (hty : parseFieldDescriptor d = some ty) (hn : narrow ty v = v) (hf : fits ty v = true) {rest : List Value} (q : Nat) (hs : st = v :: .ref a :: rest) (hd : decode c.code pc = .ok (.putfield index, 3)) (hq : pc + 3 = q)
    (k : ∀ T' h', Stand p l e R s m args below meth c T' (locs ++ [⟨a, slotOf Z O n d⟩]) cells slots → T'.heap = h' → Wr h h' a (slotOf Z O n d) v → own_Fin p.tables e below Post (T'.setTop (mkF m q Ls rest))) : own_Fin p.tables e below Post (T.setTop (mkF m pc Ls st)) := by
  subst hq hs
  obtain ⟨T', h', a', b', c', t⟩ := own_putFR X hx hZ hown w eT F E L wi hty hn hf (g := mkF m pc Ls (v :: .ref a :: rest)) rfl rfl hd
  exact own_Fin.step t (k T' h' a' b' c')
theorem own_cS (X : Stand p l e R s m args below meth c T locs cells slots) (hx : p.tables.exec = Jvm.exec) (hZ : Z.Warmed39 s.vm) {own : String} {index : Nat} {y : MethodName} {bytes : ByteArray} {maxL : Nat} {ret : Option FieldType} {rm : Room} {Q : Option Value → Heap → List Loc → Prop} {as' : Array Value} (hown : s.vm.findClass own = some m.cls) (w1 : (Cond.methodLink own index y).before a0 Z = true) (w2 : (Cond.static y).before a0 Z = true) (hy : y.cls ≠ "java/lang/invoke/MethodHandle" ∧ y.cls ≠ "java/lang/invoke/VarHandle")
    (wc : (Cond.code y bytes maxL ret).before a0 Z = true) (wz : (Cond.initialized y.cls).before a0 Z = true) (hM : MetFree l y (head1 [Cond.code y bytes maxL ret] rm) (fun as U => as = as' ∧ Z.Warmed39 U.vm ∧ U.heap = h) (fun _ _ _ _ _ => True) (fun _ U o U' => ∃ v L, o = .returned v ∧ Q v U'.heap L ∧ FrameEnd U o U' L rm.cells rm.slots))
    (eT : T.heap = h) (argsL rest : List Value) (q W : Nat) (hd : decode c.code pc = .ok (.invokestatic index, 3)) (hq : pc + 3 = q) (hsz : Ls.size = c.maxLocals) (has : argsL.toArray = as') (hst : st = argsL.reverse ++ rest) (hlen : ∀ sig, parseMethodDescriptor y.desc = some sig → argsL.length = sig.parameters.length) (hW : 2 * 0 + (rest.map fun v => v.category).sum = W) (hr : (rm.frames + 1 ≤ R.frames ∧ W + (maxL + 11) + rm.locals ≤ R.locals) ∧ cells + rm.cells ≤ R.cells ∧ slots + rm.slots ≤ R.slots)
    (k : ∀ v T' L, Stand p l e R s m args below meth c T' (locs ++ L) (cells + rm.cells) (slots + rm.slots) → Q v T'.heap L → own_Fin p.tables e below Post (T'.setTop (mkF m q Ls (v.toList ++ rest)))) : own_Fin p.tables e below Post (T.setTop (mkF m pc Ls st)) := by
  subst hst hq has
  obtain ⟨v, vm1, ⟨T', L', k', n'⟩, -, X', ⟨Lc, hQ, l', y', z'⟩, t'⟩ := Jvm.LawKit.callS X hx (y := y) hown (mvT hZ w1) (mvT hZ w2) (mvT hZ wz) (mvT hZ wc) hy (backOf (W := W) hM hZ wc wz hr.1.1 hr.1.2) (g := mkF m pc Ls (argsL.reverse ++ rest)) rfl hsz (argsL := argsL) (rest := rest) hlen rfl (Nat.le_of_eq hW) hd (fun _ _ => ⟨rfl, eT, hr.2.1, hr.2.2⟩)
  dsimp only [Pt.U, Pt.locs, Pt.cells, Pt.slots] at X' l' y' z' t' hQ
  subst l' y' z'
  exact own_Fin.step t' (k v T' Lc X' hQ)
theorem own_cN (X : Stand p l e R s m args below meth c T locs cells slots) (hx : p.tables.exec = Jvm.exec) (hZ : Z.Warmed39 s.vm) {own : String} {index : Nat} {y : MethodName} {bytes : ByteArray} {maxL : Nat} {rm : Room} {Q : Option Value → Heap → List Loc → Prop} {as' : Array Value} {a : Addr} (hown : s.vm.findClass own = some m.cls) (hy1 : y.name = "<init>") (w1 : (Cond.methodLink own index y).before a0 Z = true) (w3 : (Cond.instanceMethod y).before a0 Z = true) (hy : y.cls ≠ "java/lang/invoke/MethodHandle" ∧ y.cls ≠ "java/lang/invoke/VarHandle")
    (wc : (Cond.code y bytes maxL none).before a0 Z = true) (wz : (Cond.initialized y.cls).before a0 Z = true) (hM : MetFree l y (head1 [Cond.code y bytes maxL none] rm) (fun as U => as = as' ∧ Z.Warmed39 U.vm ∧ U.heap = h) (fun _ _ _ _ _ => True) (fun _ U o U' => ∃ v L, o = .returned v ∧ Q v U'.heap L ∧ FrameEnd U o U' L rm.cells rm.slots))
    (eT : T.heap = h) (argsL rest : List Value) (q W : Nat) (hd : decode c.code pc = .ok (.invokespecial index, 3)) (hq : pc + 3 = q) (hsz : Ls.size = c.maxLocals) (has : (.ref a :: argsL).toArray = as') (hst : st = argsL.reverse ++ .ref a :: rest) (hlen : ∀ sig, parseMethodDescriptor y.desc = some sig → argsL.length = sig.parameters.length) (hW : 2 * 0 + (rest.map fun v => v.category).sum = W) (hr : (rm.frames + 1 ≤ R.frames ∧ W + (maxL + 11) + rm.locals ≤ R.locals) ∧ cells + rm.cells ≤ R.cells ∧ slots + rm.slots ≤ R.slots)
    (k : ∀ v T' L, Stand p l e R s m args below meth c T' (locs ++ L) (cells + rm.cells) (slots + rm.slots) → Q v T'.heap L → own_Fin p.tables e below Post (T'.setTop (mkF m q Ls (v.toList ++ rest)))) : own_Fin p.tables e below Post (T.setTop (mkF m pc Ls st)) := by
  subst hst hq has
  obtain ⟨v, vm1, ⟨T', L', k', n'⟩, -, X', ⟨Lc, hQ, l', y', z'⟩, t'⟩ := X.specialBack hx (y := y) hy1 hown (mvT hZ w1) (mvT hZ w3) (mvT hZ wc) hy (backOf (W := W) hM hZ wc wz hr.1.1 hr.1.2) (g := mkF m pc Ls (argsL.reverse ++ .ref a :: rest)) rfl hsz (Steps.refl _) (a := a) (argsL := argsL) (rest := rest) hlen rfl (Nat.le_of_eq hW) hd (fun _ _ => ⟨rfl, eT, hr.2.1, hr.2.2⟩)
  dsimp only [Pt.U, Pt.locs, Pt.cells, Pt.slots] at X' l' y' z' t' hQ
  subst l' y' z'
  exact own_Fin.trans t' (k v T' Lc X' hQ)
theorem own_cV (X : Stand p l e R s m args below meth c T locs cells slots) (hx : p.tables.exec = Jvm.exec) (hZ : Z.Warmed39 s.vm) {own : String} {C : String} {index : Nat} {x y : MethodName} {bytes : ByteArray} {maxL : Nat} {ret : Option FieldType} {rm : Room} {Q : Option Value → Heap → List Loc → Prop} {as' : Array Value} {a : Addr} (hown : s.vm.findClass own = some m.cls) (w1 : (Cond.methodLink own index x).before a0 Z = true) (w2 : (Cond.declares x).before a0 Z = true) (nf : NotFace s x) (w4 : (Cond.selects C x y).before a0 Z = true) (w3 : (Cond.instanceMethod y).before a0 Z = true) (hy : x.cls ≠ "java/lang/invoke/MethodHandle" ∧ x.cls ≠ "java/lang/invoke/VarHandle")
    (wc : (Cond.code y bytes maxL ret).before a0 Z = true) (wz : (Cond.initialized y.cls).before a0 Z = true) (hM : MetFree l y (head1 [Cond.code y bytes maxL ret] rm) (fun as U => as = as' ∧ Z.Warmed39 U.vm ∧ U.heap = h) (fun _ _ _ _ _ => True) (fun _ U o U' => ∃ v L, o = .returned v ∧ Q v U'.heap L ∧ FrameEnd U o U' L rm.cells rm.slots))
    (eT : T.heap = h) (E : Exa Z h a C) (argsL rest : List Value) (q W : Nat) (hd : decode c.code pc = .ok (.invokevirtual index, 3)) (hq : pc + 3 = q) (hsz : Ls.size = c.maxLocals) (has : (.ref a :: argsL).toArray = as') (hst : st = argsL.reverse ++ .ref a :: rest) (hlen : ∀ sig, parseMethodDescriptor x.desc = some sig → argsL.length = sig.parameters.length) (hW : 2 * 0 + (rest.map fun v => v.category).sum = W) (hr : (rm.frames + 1 ≤ R.frames ∧ W + (maxL + 11) + rm.locals ≤ R.locals) ∧ cells + rm.cells ≤ R.cells ∧ slots + rm.slots ≤ R.slots)
    (k : ∀ v T' L, Stand p l e R s m args below meth c T' (locs ++ L) (cells + rm.cells) (slots + rm.slots) → Q v T'.heap L → own_Fin p.tables e below Post (T'.setTop (mkF m q Ls (v.toList ++ rest)))) : own_Fin p.tables e below Post (T.setTop (mkF m pc Ls st)) := by
  subst hst hq has
  obtain ⟨cB, kB, q1, q2, q3⟩ := isOf hZ eT E
  obtain ⟨v, vm1, ⟨T', L', k', n'⟩, -, X', ⟨Lc, hQ, l', y', z'⟩, t'⟩ := X.virtualBack hx (y := x) (z := y) hown (mvT hZ w1) (mvT hZ w2) nf (mvT hZ w4) (mvT hZ w3) hy (backOf (W := W) hM hZ wc wz hr.1.1 hr.1.2) q1 q3 (g := mkF m pc Ls (argsL.reverse ++ .ref a :: rest)) rfl hsz (Steps.refl _) (argsL := argsL) (rest := rest) hlen rfl (Nat.le_of_eq hW) hd (fun _ _ => ⟨rfl, eT, hr.2.1, hr.2.2⟩)
  dsimp only [Pt.U, Pt.locs, Pt.cells, Pt.slots] at X' l' y' z' t' hQ
  subst l' y' z'
  exact own_Fin.trans t' (k v T' Lc X' hQ)
theorem own_cI (X : Stand p l e R s m args below meth c T locs cells slots) (hx : p.tables.exec = Jvm.exec) (hZ : Z.Warmed39 s.vm) {own : String} {C : String} {index count : Nat} {xi y : MethodName} {bytes : ByteArray} {maxL : Nat} {ret : Option FieldType} {rm : Room} {Q : Option Value → Heap → List Loc → Prop} {as' : Array Value} {a : Addr} (hown : s.vm.findClass own = some m.cls) (w1 : (Cond.methodLink own index xi).before a0 Z = true) (w2 : (Cond.declares xi).before a0 Z = true) (w5 : (Cond.interfaceMethod xi.cls xi.cls xi.name xi.desc).before args s = true) (w4 : (Cond.selects C xi y).before a0 Z = true) (w3 : (Cond.instanceMethod y).before a0 Z = true) (w6 : (Cond.publicMethod y).before a0 Z = true) (w7 : (Cond.unhidden C xi.name xi.desc).before a0 Z = true) (w8 : (Cond.castable C xi.cls).before a0 Z = true) (hy : xi.cls ≠ "java/lang/invoke/MethodHandle" ∧ xi.cls ≠ "java/lang/invoke/VarHandle")
    (wc : (Cond.code y bytes maxL ret).before a0 Z = true) (wz : (Cond.initialized y.cls).before a0 Z = true) (hM : MetFree l y (head1 [Cond.code y bytes maxL ret] rm) (fun as U => as = as' ∧ Z.Warmed39 U.vm ∧ U.heap = h) (fun _ _ _ _ _ => True) (fun _ U o U' => ∃ v L, o = .returned v ∧ Q v U'.heap L ∧ FrameEnd U o U' L rm.cells rm.slots))
    (eT : T.heap = h) (E : Exa Z h a C) (argsL rest : List Value) (q W : Nat) (hd : decode c.code pc = .ok (.invokeinterface index count, 5)) (hq : pc + 5 = q) (hsz : Ls.size = c.maxLocals) (has : (.ref a :: argsL).toArray = as') (hst : st = argsL.reverse ++ .ref a :: rest) (hlen : ∀ sig, parseMethodDescriptor xi.desc = some sig → argsL.length = sig.parameters.length) (hW : 2 * 0 + (rest.map fun v => v.category).sum = W) (hr : (rm.frames + 1 ≤ R.frames ∧ W + (maxL + 11) + rm.locals ≤ R.locals) ∧ cells + rm.cells ≤ R.cells ∧ slots + rm.slots ≤ R.slots)
    (k : ∀ v T' L, Stand p l e R s m args below meth c T' (locs ++ L) (cells + rm.cells) (slots + rm.slots) → Q v T'.heap L → own_Fin p.tables e below Post (T'.setTop (mkF m q Ls (v.toList ++ rest)))) : own_Fin p.tables e below Post (T.setTop (mkF m pc Ls st)) := by
  subst hst hq has
  obtain ⟨cB, kB, q1, q2, q3⟩ := isOf hZ eT E
  obtain ⟨v, vm1, ⟨T', L', k', n'⟩, -, X', ⟨Lc, hQ, l', y', z'⟩, t'⟩ := X.interfaceBack hx (xi := xi) (y := y) hown (mvT hZ w1) (mvT hZ w2) w5 (mvT hZ w4) (mvT hZ w3) (mvT hZ w6) (mvT hZ w7) (mvT hZ w8) hy (backOf (W := W) hM hZ wc wz hr.1.1 hr.1.2) q1 q2 q3 (g := mkF m pc Ls (argsL.reverse ++ .ref a :: rest)) rfl hsz (Steps.refl _) (argsL := argsL) (rest := rest) hlen rfl (Nat.le_of_eq hW) hd (fun _ _ => ⟨rfl, eT, hr.2.1, hr.2.2⟩)
  dsimp only [Pt.U, Pt.locs, Pt.cells, Pt.slots] at X' l' y' z' t' hQ
  subst l' y' z'
  exact own_Fin.trans t' (k v T' Lc X' hQ)
theorem own_cG (X : Stand p l e R s m args below meth c T locs cells slots) (hx : p.tables.exec = Jvm.exec) (hZ : Z.Warmed39 s.vm) {own : String} {C D : String} {index : Nat} {y : MethodName} {bytes : ByteArray} {maxL : Nat} {ret : Option FieldType} {rm : Room} {Q : Option Value → Heap → List Loc → Prop} {as' : Array Value} {a : Addr} (hown : s.vm.findClass own = some m.cls) (w1 : (Cond.methodLink own index y).before a0 Z = true) (w3 : (Cond.instanceMethod y).before a0 Z = true) (hsel : (Cond.selects D y y).before args s = true) (w6 : (Cond.privateMethod y).before a0 Z = true) (hy : y.cls ≠ "java/lang/invoke/MethodHandle" ∧ y.cls ≠ "java/lang/invoke/VarHandle")
    (wc : (Cond.code y bytes maxL ret).before a0 Z = true) (wz : (Cond.initialized y.cls).before a0 Z = true) (hM : MetFree l y (head1 [Cond.code y bytes maxL ret] rm) (fun as U => as = as' ∧ Z.Warmed39 U.vm ∧ U.heap = h) (fun _ _ _ _ _ => True) (fun _ U o U' => ∃ v L, o = .returned v ∧ Q v U'.heap L ∧ FrameEnd U o U' L rm.cells rm.slots))
    (eT : T.heap = h) (E : Exa Z h a C) (argsL rest : List Value) (q W : Nat) (hd : decode c.code pc = .ok (.invokevirtual index, 3)) (hq : pc + 3 = q) (hsz : Ls.size = c.maxLocals) (has : (.ref a :: argsL).toArray = as') (hst : st = argsL.reverse ++ .ref a :: rest) (hlen : ∀ sig, parseMethodDescriptor y.desc = some sig → argsL.length = sig.parameters.length) (hW : 2 * 0 + (rest.map fun v => v.category).sum = W) (hr : (rm.frames + 1 ≤ R.frames ∧ W + (maxL + 11) + rm.locals ≤ R.locals) ∧ cells + rm.cells ≤ R.cells ∧ slots + rm.slots ≤ R.slots)
    (k : ∀ v T' L, Stand p l e R s m args below meth c T' (locs ++ L) (cells + rm.cells) (slots + rm.slots) → Q v T'.heap L → own_Fin p.tables e below Post (T'.setTop (mkF m q Ls (v.toList ++ rest)))) : own_Fin p.tables e below Post (T.setTop (mkF m pc Ls st)) := by
  subst hst hq has
  obtain ⟨cq, q1, q2⟩ := E.cell
  obtain ⟨v, vm1, ⟨T', L', k', n'⟩, -, X', ⟨Lc, hQ, l', y', z'⟩, t'⟩ := own_privG X hx (y := y) hown (mvT hZ w1) (mvT hZ w3) hsel (Cond.privateMethod_at (mvP hZ w6 (args := #[]))) (own_sigC (args := args) (mvT hZ wc)) hy (backOf (W := W) hM hZ wc wz hr.1.1 hr.1.2) (g := mkF m pc Ls (argsL.reverse ++ .ref a :: rest)) rfl hsz (Steps.refl _) (a := a) (by rw [eT]; exact q1) q2 (argsL := argsL) (rest := rest) hlen rfl (Nat.le_of_eq hW) hd (fun _ _ => ⟨rfl, eT, hr.2.1, hr.2.2⟩)
  dsimp only [Pt.U, Pt.locs, Pt.cells, Pt.slots] at X' l' y' z' t' hQ
  subst l' y' z'
  exact own_Fin.trans t' (k v T' Lc X' hQ)
theorem own_cY (X : Stand p l e R s m args below meth c T locs cells slots) (hx : p.tables.exec = Jvm.exec) (hZ : Z.Warmed39 s.vm) {own : String} {C D : String} {index : Nat} {y : MethodName} {bytes : ByteArray} {maxL : Nat} {ret : Option FieldType} {rm : Room} {Q : Option Value → Heap → List Loc → Prop} {as' : Array Value} {a : Addr} (hown : s.vm.findClass own = some m.cls) (w1 : (Cond.methodLink own index y).before a0 Z = true) (w3 : (Cond.instanceMethod y).before a0 Z = true) (hsel : (Cond.selects D y y).before args s = true) (w6 : (Cond.privateMethod y).before a0 Z = true) (hy : y.cls ≠ "java/lang/invoke/MethodHandle" ∧ y.cls ≠ "java/lang/invoke/VarHandle")
    (wc : (Cond.codeSync y bytes maxL ret).before a0 Z = true) (wz : (Cond.initialized y.cls).before a0 Z = true) (hM : MetFree l y (head1 [Cond.codeSync y bytes maxL ret, Cond.instanceMethod y] rm) (fun as U => as = as' ∧ Z.Warmed39 U.vm ∧ U.heap = h ∧ ∃ cell : Cell, h[a]? = some cell ∧ cell.enterable U.cur) (fun _ _ _ _ _ => True) (fun _ U o U' => ∃ v L, o = .returned v ∧ Q v U'.heap L ∧ FrameEnd U o U' L rm.cells rm.slots))
    (eT : T.heap = h) (E : Exa Z h a C) (N : Unt h a) (argsL rest : List Value) (q W : Nat) (hd : decode c.code pc = .ok (.invokevirtual index, 3)) (hq : pc + 3 = q) (hsz : Ls.size = c.maxLocals) (has : (.ref a :: argsL).toArray = as') (hst : st = argsL.reverse ++ .ref a :: rest) (hlen : ∀ sig, parseMethodDescriptor y.desc = some sig → argsL.length = sig.parameters.length) (hW : 2 * 0 + (rest.map fun v => v.category).sum = W) (hr : (rm.frames + 1 ≤ R.frames ∧ W + (maxL + 11) + rm.locals ≤ R.locals) ∧ cells + rm.cells ≤ R.cells ∧ slots + rm.slots ≤ R.slots)
    (k : ∀ v T' L, Stand p l e R s m args below meth c T' (locs ++ L) (cells + rm.cells) (slots + rm.slots) → Q v T'.heap L → own_Fin p.tables e below Post (T'.setTop (mkF m q Ls (v.toList ++ rest)))) : own_Fin p.tables e below Post (T.setTop (mkF m pc Ls st)) := by
  subst hst hq has
  obtain ⟨cq, q1, q2⟩ := E.cell
  obtain ⟨v, vm1, ⟨T', L', k', n'⟩, -, X', ⟨Lc, hQ, l', y', z'⟩, t'⟩ := own_privG X hx (y := y) hown (mvT hZ w1) (mvT hZ w3) hsel (Cond.privateMethod_at (mvP hZ w6 (args := #[]))) (own_sigS (args := args) (mvT hZ wc)) hy (own_backS (W := W) hM hZ wc w3 wz N hr.1.1 hr.1.2) (g := mkF m pc Ls (argsL.reverse ++ .ref a :: rest)) rfl hsz (Steps.refl _) (a := a) (by rw [eT]; exact q1) q2 (argsL := argsL) (rest := rest) hlen rfl (Nat.le_of_eq hW) hd (fun _ _ => ⟨rfl, eT, hr.2.1, hr.2.2⟩)
  dsimp only [Pt.U, Pt.locs, Pt.cells, Pt.slots] at X' l' y' z' t' hQ
  subst l' y' z'
  exact own_Fin.trans t' (k v T' Lc X' hQ)
theorem own_cU (X : Stand p l e R s m args below meth c T locs cells slots) (hx : p.tables.exec = Jvm.exec) (hZ : Z.Warmed39 s.vm) {own : String} {C : String} {index : Nat} {y : MethodName} {bytes : ByteArray} {maxL : Nat} {ret : Option FieldType} {rm : Room} {Q : Option Value → Heap → List Loc → Prop} {as' : Array Value} {a : Addr} (hown : s.vm.findClass own = some m.cls) (w1 : (Cond.methodLink own index y).before a0 Z = true) (w2 : (Cond.sameMethod y.cls y.cls y.name y.desc).before a0 Z = true) (w3 : (Cond.instanceMethod y).before a0 Z = true) (w4 : (Cond.superclass own y.cls).before a0 Z = true) (hn : y.name ≠ "<init>") 
    (wc : (Cond.code y bytes maxL ret).before a0 Z = true) (wz : (Cond.initialized y.cls).before a0 Z = true) (hM : MetFree l y (head1 [Cond.code y bytes maxL ret] rm) (fun as U => as = as' ∧ Z.Warmed39 U.vm ∧ U.heap = h) (fun _ _ _ _ _ => True) (fun _ U o U' => ∃ v L, o = .returned v ∧ Q v U'.heap L ∧ FrameEnd U o U' L rm.cells rm.slots))
    (eT : T.heap = h) (E : Exa Z h a C) (argsL rest : List Value) (q W : Nat) (hd : decode c.code pc = .ok (.invokespecial index, 3)) (hq : pc + 3 = q) (hsz : Ls.size = c.maxLocals) (has : (.ref a :: argsL).toArray = as') (hst : st = argsL.reverse ++ .ref a :: rest) (hlen : ∀ sig, parseMethodDescriptor y.desc = some sig → argsL.length = sig.parameters.length) (hW : 2 * 0 + (rest.map fun v => v.category).sum = W) (hr : (rm.frames + 1 ≤ R.frames ∧ W + (maxL + 11) + rm.locals ≤ R.locals) ∧ cells + rm.cells ≤ R.cells ∧ slots + rm.slots ≤ R.slots)
    (k : ∀ v T' L, Stand p l e R s m args below meth c T' (locs ++ L) (cells + rm.cells) (slots + rm.slots) → Q v T'.heap L → own_Fin p.tables e below Post (T'.setTop (mkF m q Ls (v.toList ++ rest)))) : own_Fin p.tables e below Post (T.setTop (mkF m pc Ls st)) := by
  subst hst hq has
  obtain ⟨v, vm1, ⟨T', L', k', n'⟩, -, X', ⟨Lc, hQ, l', y', z'⟩, t'⟩ := superBack X hx hZ (y := y) hown w1 w2 w3 w4 hn (backOf (W := W) hM hZ wc wz hr.1.1 hr.1.2) eT (Ins.self E) (g := mkF m pc Ls (argsL.reverse ++ .ref a :: rest)) rfl hsz wc (argsL := argsL) (rest := rest) hlen rfl (Nat.le_of_eq hW) hd (fun _ _ => ⟨rfl, eT, hr.2.1, hr.2.2⟩)
  dsimp only [Pt.U, Pt.locs, Pt.cells, Pt.slots] at X' l' y' z' t' hQ
  subst l' y' z'
  exact own_Fin.trans t' (k v T' Lc X' hQ)
theorem own_cR (X : Stand p l e R s m args below meth c T locs cells slots) (hx : p.tables.exec = Jvm.exec) (hZ : Z.Warmed39 s.vm) {own : String} {C : String} {index kk : Nat} {y : MethodName} {bytes : ByteArray} {maxL : Nat} {ret : Option FieldType} {rm : Room} {Q : Option Value → Heap → List Loc → Prop} {as' : Array Value} {a : Addr} (hown : s.vm.findClass own = some m.cls) (w1 : (Cond.methodRef own index y).before a0 Z = true) (w3 : (Cond.instanceMethod y).before a0 Z = true) (w6 : (Cond.privateMethod y).before a0 Z = true) (w7 : (Cond.instantiable y.cls kk).before a0 Z = true) (hy : y.cls ≠ "java/lang/invoke/MethodHandle" ∧ y.cls ≠ "java/lang/invoke/VarHandle")
    (wc : (Cond.code y bytes maxL ret).before a0 Z = true) (wz : (Cond.initialized y.cls).before a0 Z = true) (hM : MetFree l y (head1 [Cond.code y bytes maxL ret] rm) (fun as U => as = as' ∧ Z.Warmed39 U.vm ∧ U.heap = h) (fun _ _ _ _ _ => True) (fun _ U o U' => ∃ v L, o = .returned v ∧ Q v U'.heap L ∧ FrameEnd U o U' L rm.cells rm.slots))
    (eT : T.heap = h) (E : Exa Z h a C) (argsL rest : List Value) (q W : Nat) (hd : decode c.code pc = .ok (.invokevirtual index, 3)) (hq : pc + 3 = q) (hsz : Ls.size = c.maxLocals) (has : (.ref a :: argsL).toArray = as') (hst : st = argsL.reverse ++ .ref a :: rest) (hlen : ∀ sig, parseMethodDescriptor y.desc = some sig → argsL.length = sig.parameters.length) (hW : 2 * 0 + (rest.map fun v => v.category).sum = W) (hr : (rm.frames + 1 ≤ R.frames ∧ W + (maxL + 11) + rm.locals ≤ R.locals) ∧ cells + rm.cells ≤ R.cells ∧ slots + rm.slots ≤ R.slots)
    (k : ∀ v T' L, Stand p l e R s m args below meth c T' (locs ++ L) (cells + rm.cells) (slots + rm.slots) → Q v T'.heap L → own_Fin p.tables e below Post (T'.setTop (mkF m q Ls (v.toList ++ rest)))) : own_Fin p.tables e below Post (T.setTop (mkF m pc Ls st)) := by
  subst hst hq has
  obtain ⟨cq, q1, q2⟩ := E.cell
  obtain ⟨v, vm1, ⟨T', L', k', n'⟩, -, X', ⟨Lc, hQ, l', y', z'⟩, t'⟩ := own_privR X hx hZ (y := y) hown w1 w3 w6 w7 hy (backOf (W := W) hM hZ wc wz hr.1.1 hr.1.2) (g := mkF m pc Ls (argsL.reverse ++ .ref a :: rest)) rfl hsz (Steps.refl _) (a := a) (by rw [eT]; exact q1) q2 (argsL := argsL) (rest := rest) hlen rfl (Nat.le_of_eq hW) hd wc (fun _ _ => ⟨rfl, eT, hr.2.1, hr.2.2⟩)
  dsimp only [Pt.U, Pt.locs, Pt.cells, Pt.slots] at X' l' y' z' t' hQ
  subst l' y' z'
  exact own_Fin.trans t' (k v T' Lc X' hQ)
theorem own_cRi (X : Stand p l e R s m args below meth c T locs cells slots) (hx : p.tables.exec = Jvm.exec) (hZ : Z.Warmed39 s.vm) {own : String} {index : Nat} {y : MethodName} {bytes : ByteArray} {maxL : Nat} {ret : Option FieldType} {rm : Room} {Q : Option Value → Heap → List Loc → Prop} {as' : Array Value} {a : Addr} (hown : s.vm.findClass own = some m.cls) (hy1 : y.name = "<init>") (w1 : (Cond.methodRef own index y).before a0 Z = true) (w3 : (Cond.instanceMethod y).before a0 Z = true) (hy : y.cls ≠ "java/lang/invoke/MethodHandle" ∧ y.cls ≠ "java/lang/invoke/VarHandle")
    (wc : (Cond.code y bytes maxL ret).before a0 Z = true) (wz : (Cond.initialized y.cls).before a0 Z = true) (hM : MetFree l y (head1 [Cond.code y bytes maxL ret] rm) (fun as U => as = as' ∧ Z.Warmed39 U.vm ∧ U.heap = h) (fun _ _ _ _ _ => True) (fun _ U o U' => ∃ v L, o = .returned v ∧ Q v U'.heap L ∧ FrameEnd U o U' L rm.cells rm.slots))
    (eT : T.heap = h) (argsL rest : List Value) (q W : Nat) (hd : decode c.code pc = .ok (.invokespecial index, 3)) (hq : pc + 3 = q) (hsz : Ls.size = c.maxLocals) (has : (.ref a :: argsL).toArray = as') (hst : st = argsL.reverse ++ .ref a :: rest) (hlen : ∀ sig, parseMethodDescriptor y.desc = some sig → argsL.length = sig.parameters.length) (hW : 2 * 0 + (rest.map fun v => v.category).sum = W) (hr : (rm.frames + 1 ≤ R.frames ∧ W + (maxL + 11) + rm.locals ≤ R.locals) ∧ cells + rm.cells ≤ R.cells ∧ slots + rm.slots ≤ R.slots)
    (k : ∀ v T' L, Stand p l e R s m args below meth c T' (locs ++ L) (cells + rm.cells) (slots + rm.slots) → Q v T'.heap L → own_Fin p.tables e below Post (T'.setTop (mkF m q Ls (v.toList ++ rest)))) : own_Fin p.tables e below Post (T.setTop (mkF m pc Ls st)) := by
  subst hst hq has
  obtain ⟨v, vm1, ⟨T', L', k', n'⟩, -, X', ⟨Lc, hQ, l', y', z'⟩, t'⟩ := own_initR X hx hZ (y := y) hy1 hown w1 w3 hy (backOf (W := W) hM hZ wc wz hr.1.1 hr.1.2) (g := mkF m pc Ls (argsL.reverse ++ .ref a :: rest)) rfl hsz (Steps.refl _) (a := a) (argsL := argsL) (rest := rest) hlen rfl (Nat.le_of_eq hW) hd wc (fun _ _ => ⟨rfl, eT, hr.2.1, hr.2.2⟩)
  dsimp only [Pt.U, Pt.locs, Pt.cells, Pt.slots] at X' l' y' z' t' hQ
  subst l' y' z'
  exact own_Fin.trans t' (k v T' Lc X' hQ)
theorem own_nS {a x : Addr} {xs : List Addr} (q : @Ne Nat a x) (k : a ∉ xs) : a ∉ x :: xs := ninS q k
theorem own_aL (X : Stand p l e R s m args below meth c T locs cells slots) (hx : p.tables.exec = Jvm.exec) (hZ : Z.Warmed39 s.vm) (eT : T.heap = h) {a : Addr} {kc : ClassId} {ty : FieldType} {z : Int32} {vs : List Value} {dv : Value} (F : Arv Z h a kc ty z vs dv) {rest : List Value} (q : Nat) (hs : st = .ref a :: rest) (hd : decode c.code pc = .ok (.arraylength, 1)) (hq : pc + 1 = q) (k : own_Fin p.tables e below Post (T.setTop (mkF m q Ls (.int z :: rest)))) : own_Fin p.tables e below Post (T.setTop (mkF m pc Ls st)) := by
  subst hq hs
  obtain ⟨cl, Ar, q1, S, N, Hs, G⟩ := F
  refine own_Fin.step (X.arraylength hx (by rw [eT]; exact Ar.1) (State.isArrayOf_alike hZ.alike Ar.2.1) (g := mkF m pc Ls (.ref a :: rest)) rfl rfl hd) ?_
  rw [len_of S N]
  exact k
theorem own_bL (X : Stand p l e R s m args below meth c T locs cells slots) (hx : p.tables.exec = Jvm.exec) (hZ : Z.Warmed39 s.vm) (eT : T.heap = h) {a : Addr} {kc : ClassId} {z : Int32} {vs : List Value} {dv : Value} (F : Arv Z h a kc .byte z vs dv) {j x : Int32} {rest : List Value} (q : Nat) (hs : st = .int j :: .ref a :: rest) (hd : decode c.code pc = .ok (.baload, 1)) (hq : pc + 1 = q) (hin : ¬ j < 0 ∧ j < z) (hv : vs.getD j.toNatClampNeg dv = .int x) (k : own_Fin p.tables e below Post (T.setTop (mkF m q Ls (.int x :: rest)))) : own_Fin p.tables e below Post (T.setTop (mkF m pc Ls st)) := by
  subst hq hs
  obtain ⟨cl, Ar, q1, S, N, Hs, G⟩ := F
  have h1 := inb_of S hin
  exact own_Fin.step (X.baloadBytes hx (j := j) (v := .int x) (by rw [eT]; exact Ar.1) (State.isArrayOf_alike hZ.alike Ar.2.1) Ar.2.2 h1 (Hs.at h1 hv) (g := mkF m pc Ls (.int j :: .ref a :: rest)) rfl rfl hd) k
theorem own_ne {a b : Addr} (q : @Ne Nat a b) : a ≠ b := q
end Cps
end Jvm.RoadKit
namespace Jvm.RoadKit
open Sem ClassFile Op Lib Jvm.Stand Jvm.Free Jvm.LawKit
section Run
variable {p : Program} {l : Launch} {e : Env} {R : Room} {s : State} {m : MethodId} {args : Array Value} {below : List Frame} {meth : Method} {c : Code} {T : State} {locs : List Loc} {cells slots : Nat} {Post : Outcome → State → Prop} {pc q : Nat} {Ls Ls' : Array Slot} {st st' : List Value}
def own_x_iload (k : Nat) (Ls : Array Slot) (st : List Value) : Option (Array Slot × List Value) := match Ls[k]? with | some (.val (.int v)) => (some (Ls, .int v :: st)) | _ => none
theorem own_x_iload_s (X : Stand p l e R s m args below meth c T locs cells slots) (hx : p.tables.exec = Jvm.exec) {k : Nat} (hd : decode c.code pc = .ok (.iload k, 2)) (h : own_x_iload k Ls st = some (Ls', st')) (t : State) (r : Steps p.tables e below (T.setTop (mkF m (pc + 2) Ls' st')) t) : Steps p.tables e below (T.setTop (mkF m pc Ls st)) t := by
  unfold own_x_iload at h
  split at h
  · rename_i hv
    cases h
    exact XS.iload X.here hx rfl hd hv r
  · cases h
def own_x_iload_n (k : Fin 4) (Ls : Array Slot) (st : List Value) : Option (Array Slot × List Value) := match Ls[k.val]? with | some (.val (.int v)) => (some (Ls, .int v :: st)) | _ => none
theorem own_x_iload_n_s (X : Stand p l e R s m args below meth c T locs cells slots) (hx : p.tables.exec = Jvm.exec) {k : Fin 4} (hd : decode c.code pc = .ok (.iload_n k, 1)) (h : own_x_iload_n k Ls st = some (Ls', st')) (t : State) (r : Steps p.tables e below (T.setTop (mkF m (pc + 1) Ls' st')) t) : Steps p.tables e below (T.setTop (mkF m pc Ls st)) t := by
  unfold own_x_iload_n at h
  split at h
  · rename_i hv
    cases h
    exact XS.iloadN X.here hx rfl hd hv r
  · cases h
def own_x_lload (k : Nat) (Ls : Array Slot) (st : List Value) : Option (Array Slot × List Value) := match Ls[k]? with | some (.val (.long v)) => (some (Ls, .long v :: st)) | _ => none
theorem own_x_lload_s (X : Stand p l e R s m args below meth c T locs cells slots) (hx : p.tables.exec = Jvm.exec) {k : Nat} (hd : decode c.code pc = .ok (.lload k, 2)) (h : own_x_lload k Ls st = some (Ls', st')) (t : State) (r : Steps p.tables e below (T.setTop (mkF m (pc + 2) Ls' st')) t) : Steps p.tables e below (T.setTop (mkF m pc Ls st)) t := by
  unfold own_x_lload at h
  split at h
  · rename_i hv
    cases h
    exact XS.lload X.here hx rfl hd hv r
  · cases h
def own_x_lload_n (k : Fin 4) (Ls : Array Slot) (st : List Value) : Option (Array Slot × List Value) := match Ls[k.val]? with | some (.val (.long v)) => (some (Ls, .long v :: st)) | _ => none
theorem own_x_lload_n_s (X : Stand p l e R s m args below meth c T locs cells slots) (hx : p.tables.exec = Jvm.exec) {k : Fin 4} (hd : decode c.code pc = .ok (.lload_n k, 1)) (h : own_x_lload_n k Ls st = some (Ls', st')) (t : State) (r : Steps p.tables e below (T.setTop (mkF m (pc + 1) Ls' st')) t) : Steps p.tables e below (T.setTop (mkF m pc Ls st)) t := by
  unfold own_x_lload_n at h
  split at h
  · rename_i hv
    cases h
    exact XS.lloadN X.here hx rfl hd hv r
  · cases h
def own_x_aload (k : Nat) (Ls : Array Slot) (st : List Value) : Option (Array Slot × List Value) := match Ls[k]? with | some (.val (.ref v)) => (some (Ls, .ref v :: st)) | some (.val .null) => (some (Ls, .null :: st)) | _ => none
theorem own_x_aload_s (X : Stand p l e R s m args below meth c T locs cells slots) (hx : p.tables.exec = Jvm.exec) {k : Nat} (hd : decode c.code pc = .ok (.aload k, 2)) (h : own_x_aload k Ls st = some (Ls', st')) (t : State) (r : Steps p.tables e below (T.setTop (mkF m (pc + 2) Ls' st')) t) : Steps p.tables e below (T.setTop (mkF m pc Ls st)) t := by
  unfold own_x_aload at h
  split at h
  · rename_i hv
    cases h
    exact XS.aload X.here hx rfl hd hv rfl r
  · rename_i hv
    cases h
    exact XS.aload X.here hx rfl hd hv rfl r
  · cases h
def own_x_aload_n (k : Fin 4) (Ls : Array Slot) (st : List Value) : Option (Array Slot × List Value) := match Ls[k.val]? with | some (.val (.ref v)) => (some (Ls, .ref v :: st)) | some (.val .null) => (some (Ls, .null :: st)) | _ => none
theorem own_x_aload_n_s (X : Stand p l e R s m args below meth c T locs cells slots) (hx : p.tables.exec = Jvm.exec) {k : Fin 4} (hd : decode c.code pc = .ok (.aload_n k, 1)) (h : own_x_aload_n k Ls st = some (Ls', st')) (t : State) (r : Steps p.tables e below (T.setTop (mkF m (pc + 1) Ls' st')) t) : Steps p.tables e below (T.setTop (mkF m pc Ls st)) t := by
  unfold own_x_aload_n at h
  split at h
  · rename_i hv
    cases h
    exact XS.aloadN X.here hx rfl hd hv rfl r
  · rename_i hv
    cases h
    exact XS.aloadN X.here hx rfl hd hv rfl r
  · cases h
def own_x_istore (k : Nat) (Ls : Array Slot) (st : List Value) : Option (Array Slot × List Value) := match st with | .int v :: rest => (match storeLocals Ls k (.int v) with | some l' => some (l', rest) | none => none) | _ => none
theorem own_x_istore_s (X : Stand p l e R s m args below meth c T locs cells slots) (hx : p.tables.exec = Jvm.exec) {k : Nat} (hd : decode c.code pc = .ok (.istore k, 2)) (h : own_x_istore k Ls st = some (Ls', st')) (t : State) (r : Steps p.tables e below (T.setTop (mkF m (pc + 2) Ls' st')) t) : Steps p.tables e below (T.setTop (mkF m pc Ls st)) t := by
  unfold own_x_istore at h
  split at h
  · split at h
    · rename_i ho
      cases h
      exact XS.istore X.here hx rfl hd rfl ho r
    · cases h
  · cases h
def own_x_istore_n (k : Fin 4) (Ls : Array Slot) (st : List Value) : Option (Array Slot × List Value) := match st with | .int v :: rest => (match storeLocals Ls k.val (.int v) with | some l' => some (l', rest) | none => none) | _ => none
theorem own_x_istore_n_s (X : Stand p l e R s m args below meth c T locs cells slots) (hx : p.tables.exec = Jvm.exec) {k : Fin 4} (hd : decode c.code pc = .ok (.istore_n k, 1)) (h : own_x_istore_n k Ls st = some (Ls', st')) (t : State) (r : Steps p.tables e below (T.setTop (mkF m (pc + 1) Ls' st')) t) : Steps p.tables e below (T.setTop (mkF m pc Ls st)) t := by
  unfold own_x_istore_n at h
  split at h
  · split at h
    · rename_i ho
      cases h
      exact XS.istoreN X.here hx rfl hd rfl ho r
    · cases h
  · cases h
def own_x_lstore (k : Nat) (Ls : Array Slot) (st : List Value) : Option (Array Slot × List Value) := match st with | .long v :: rest => (match storeLocals Ls k (.long v) with | some l' => some (l', rest) | none => none) | _ => none
theorem own_x_lstore_s (X : Stand p l e R s m args below meth c T locs cells slots) (hx : p.tables.exec = Jvm.exec) {k : Nat} (hd : decode c.code pc = .ok (.lstore k, 2)) (h : own_x_lstore k Ls st = some (Ls', st')) (t : State) (r : Steps p.tables e below (T.setTop (mkF m (pc + 2) Ls' st')) t) : Steps p.tables e below (T.setTop (mkF m pc Ls st)) t := by
  unfold own_x_lstore at h
  split at h
  · split at h
    · rename_i ho
      cases h
      exact XS.lstore X.here hx rfl hd rfl ho r
    · cases h
  · cases h
def own_x_lstore_n (k : Fin 4) (Ls : Array Slot) (st : List Value) : Option (Array Slot × List Value) := match st with | .long v :: rest => (match storeLocals Ls k.val (.long v) with | some l' => some (l', rest) | none => none) | _ => none
theorem own_x_lstore_n_s (X : Stand p l e R s m args below meth c T locs cells slots) (hx : p.tables.exec = Jvm.exec) {k : Fin 4} (hd : decode c.code pc = .ok (.lstore_n k, 1)) (h : own_x_lstore_n k Ls st = some (Ls', st')) (t : State) (r : Steps p.tables e below (T.setTop (mkF m (pc + 1) Ls' st')) t) : Steps p.tables e below (T.setTop (mkF m pc Ls st)) t := by
  unfold own_x_lstore_n at h
  split at h
  · split at h
    · rename_i ho
      cases h
      exact XS.lstoreN X.here hx rfl hd rfl ho r
    · cases h
  · cases h
def own_x_astore (k : Nat) (Ls : Array Slot) (st : List Value) : Option (Array Slot × List Value) := match st with | .ref v :: rest => (match storeLocals Ls k (.ref v) with | some l' => some (l', rest) | none => none) | .null :: rest => (match storeLocals Ls k (.null) with | some l' => some (l', rest) | none => none) | _ => none
theorem own_x_astore_s (X : Stand p l e R s m args below meth c T locs cells slots) (hx : p.tables.exec = Jvm.exec) {k : Nat} (hd : decode c.code pc = .ok (.astore k, 2)) (h : own_x_astore k Ls st = some (Ls', st')) (t : State) (r : Steps p.tables e below (T.setTop (mkF m (pc + 2) Ls' st')) t) : Steps p.tables e below (T.setTop (mkF m pc Ls st)) t := by
  unfold own_x_astore at h
  split at h
  · split at h
    · rename_i ho
      cases h
      exact XS.astore X.here hx rfl hd rfl rfl ho r
    · cases h
  · split at h
    · rename_i ho
      cases h
      exact XS.astore X.here hx rfl hd rfl rfl ho r
    · cases h
  · cases h
def own_x_astore_n (k : Fin 4) (Ls : Array Slot) (st : List Value) : Option (Array Slot × List Value) := match st with | .ref v :: rest => (match storeLocals Ls k.val (.ref v) with | some l' => some (l', rest) | none => none) | .null :: rest => (match storeLocals Ls k.val (.null) with | some l' => some (l', rest) | none => none) | _ => none
theorem own_x_astore_n_s (X : Stand p l e R s m args below meth c T locs cells slots) (hx : p.tables.exec = Jvm.exec) {k : Fin 4} (hd : decode c.code pc = .ok (.astore_n k, 1)) (h : own_x_astore_n k Ls st = some (Ls', st')) (t : State) (r : Steps p.tables e below (T.setTop (mkF m (pc + 1) Ls' st')) t) : Steps p.tables e below (T.setTop (mkF m pc Ls st)) t := by
  unfold own_x_astore_n at h
  split at h
  · split at h
    · rename_i ho
      cases h
      exact XS.astoreN X.here hx rfl hd rfl rfl ho r
    · cases h
  · split at h
    · rename_i ho
      cases h
      exact XS.astoreN X.here hx rfl hd rfl rfl ho r
    · cases h
  · cases h
def own_x_iconst (i : Int) (Ls : Array Slot) (st : List Value) : Option (Array Slot × List Value) := some (Ls, .int (Int32.ofInt i) :: st)
theorem own_x_iconst_s (X : Stand p l e R s m args below meth c T locs cells slots) (hx : p.tables.exec = Jvm.exec) {i : Int} (hd : decode c.code pc = .ok (.iconst i, 1)) (h : own_x_iconst i Ls st = some (Ls', st')) (t : State) (r : Steps p.tables e below (T.setTop (mkF m (pc + 1) Ls' st')) t) : Steps p.tables e below (T.setTop (mkF m pc Ls st)) t := by
  unfold own_x_iconst at h
  cases h
  exact XS.iconst X.here hx rfl hd r
def own_x_bipush (i : Int) (Ls : Array Slot) (st : List Value) : Option (Array Slot × List Value) := some (Ls, .int (Int8.ofInt i).toInt32 :: st)
theorem own_x_bipush_s (X : Stand p l e R s m args below meth c T locs cells slots) (hx : p.tables.exec = Jvm.exec) {i : Int} (hd : decode c.code pc = .ok (.bipush i, 2)) (h : own_x_bipush i Ls st = some (Ls', st')) (t : State) (r : Steps p.tables e below (T.setTop (mkF m (pc + 2) Ls' st')) t) : Steps p.tables e below (T.setTop (mkF m pc Ls st)) t := by
  unfold own_x_bipush at h
  cases h
  exact XS.bipush X.here hx rfl hd r
def own_x_sipush (i : Int) (Ls : Array Slot) (st : List Value) : Option (Array Slot × List Value) := some (Ls, .int (Int16.ofInt i).toInt32 :: st)
theorem own_x_sipush_s (X : Stand p l e R s m args below meth c T locs cells slots) (hx : p.tables.exec = Jvm.exec) {i : Int} (hd : decode c.code pc = .ok (.sipush i, 3)) (h : own_x_sipush i Ls st = some (Ls', st')) (t : State) (r : Steps p.tables e below (T.setTop (mkF m (pc + 3) Ls' st')) t) : Steps p.tables e below (T.setTop (mkF m pc Ls st)) t := by
  unfold own_x_sipush at h
  cases h
  exact XS.sipush X.here hx rfl hd r
def own_x_aconst_null (Ls : Array Slot) (st : List Value) : Option (Array Slot × List Value) := some (Ls, .null :: st)
theorem own_x_aconst_null_s (X : Stand p l e R s m args below meth c T locs cells slots) (hx : p.tables.exec = Jvm.exec) (hd : decode c.code pc = .ok (.aconst_null, 1)) (h : own_x_aconst_null Ls st = some (Ls', st')) (t : State) (r : Steps p.tables e below (T.setTop (mkF m (pc + 1) Ls' st')) t) : Steps p.tables e below (T.setTop (mkF m pc Ls st)) t := by
  unfold own_x_aconst_null at h
  cases h
  exact XS.aconstNull X.here hx rfl hd r
def own_x_iadd (Ls : Array Slot) (st : List Value) : Option (Array Slot × List Value) := match st with | .int y :: .int x :: rest => (some (Ls, .int (x + y) :: rest)) | _ => none
theorem own_x_iadd_s (X : Stand p l e R s m args below meth c T locs cells slots) (hx : p.tables.exec = Jvm.exec) (hd : decode c.code pc = .ok (.iadd, 1)) (h : own_x_iadd Ls st = some (Ls', st')) (t : State) (r : Steps p.tables e below (T.setTop (mkF m (pc + 1) Ls' st')) t) : Steps p.tables e below (T.setTop (mkF m pc Ls st)) t := by
  unfold own_x_iadd at h
  split at h
  · cases h
    exact XS.iadd X.here hx rfl hd rfl r
  · cases h
def own_x_isub (Ls : Array Slot) (st : List Value) : Option (Array Slot × List Value) := match st with | .int y :: .int x :: rest => (some (Ls, .int (x - y) :: rest)) | _ => none
theorem own_x_isub_s (X : Stand p l e R s m args below meth c T locs cells slots) (hx : p.tables.exec = Jvm.exec) (hd : decode c.code pc = .ok (.isub, 1)) (h : own_x_isub Ls st = some (Ls', st')) (t : State) (r : Steps p.tables e below (T.setTop (mkF m (pc + 1) Ls' st')) t) : Steps p.tables e below (T.setTop (mkF m pc Ls st)) t := by
  unfold own_x_isub at h
  split at h
  · cases h
    exact XS.isub X.here hx rfl hd rfl r
  · cases h
def own_x_imul (Ls : Array Slot) (st : List Value) : Option (Array Slot × List Value) := match st with | .int y :: .int x :: rest => (some (Ls, .int (x * y) :: rest)) | _ => none
theorem own_x_imul_s (X : Stand p l e R s m args below meth c T locs cells slots) (hx : p.tables.exec = Jvm.exec) (hd : decode c.code pc = .ok (.imul, 1)) (h : own_x_imul Ls st = some (Ls', st')) (t : State) (r : Steps p.tables e below (T.setTop (mkF m (pc + 1) Ls' st')) t) : Steps p.tables e below (T.setTop (mkF m pc Ls st)) t := by
  unfold own_x_imul at h
  split at h
  · cases h
    exact XS.imul X.here hx rfl hd rfl r
  · cases h
def own_x_iand (Ls : Array Slot) (st : List Value) : Option (Array Slot × List Value) := match st with | .int y :: .int x :: rest => (some (Ls, .int (x &&& y) :: rest)) | _ => none
theorem own_x_iand_s (X : Stand p l e R s m args below meth c T locs cells slots) (hx : p.tables.exec = Jvm.exec) (hd : decode c.code pc = .ok (.iand, 1)) (h : own_x_iand Ls st = some (Ls', st')) (t : State) (r : Steps p.tables e below (T.setTop (mkF m (pc + 1) Ls' st')) t) : Steps p.tables e below (T.setTop (mkF m pc Ls st)) t := by
  unfold own_x_iand at h
  split at h
  · cases h
    exact XS.iand X.here hx rfl hd rfl r
  · cases h
def own_x_ior (Ls : Array Slot) (st : List Value) : Option (Array Slot × List Value) := match st with | .int y :: .int x :: rest => (some (Ls, .int (x ||| y) :: rest)) | _ => none
theorem own_x_ior_s (X : Stand p l e R s m args below meth c T locs cells slots) (hx : p.tables.exec = Jvm.exec) (hd : decode c.code pc = .ok (.ior, 1)) (h : own_x_ior Ls st = some (Ls', st')) (t : State) (r : Steps p.tables e below (T.setTop (mkF m (pc + 1) Ls' st')) t) : Steps p.tables e below (T.setTop (mkF m pc Ls st)) t := by
  unfold own_x_ior at h
  split at h
  · cases h
    exact XS.ior X.here hx rfl hd rfl r
  · cases h
def own_x_ixor (Ls : Array Slot) (st : List Value) : Option (Array Slot × List Value) := match st with | .int y :: .int x :: rest => (some (Ls, .int (x ^^^ y) :: rest)) | _ => none
theorem own_x_ixor_s (X : Stand p l e R s m args below meth c T locs cells slots) (hx : p.tables.exec = Jvm.exec) (hd : decode c.code pc = .ok (.ixor, 1)) (h : own_x_ixor Ls st = some (Ls', st')) (t : State) (r : Steps p.tables e below (T.setTop (mkF m (pc + 1) Ls' st')) t) : Steps p.tables e below (T.setTop (mkF m pc Ls st)) t := by
  unfold own_x_ixor at h
  split at h
  · cases h
    exact XS.ixor X.here hx rfl hd rfl r
  · cases h
def own_x_ishl (Ls : Array Slot) (st : List Value) : Option (Array Slot × List Value) := match st with | .int y :: .int x :: rest => (some (Ls, .int (x <<< (y &&& 31)) :: rest)) | _ => none
theorem own_x_ishl_s (X : Stand p l e R s m args below meth c T locs cells slots) (hx : p.tables.exec = Jvm.exec) (hd : decode c.code pc = .ok (.ishl, 1)) (h : own_x_ishl Ls st = some (Ls', st')) (t : State) (r : Steps p.tables e below (T.setTop (mkF m (pc + 1) Ls' st')) t) : Steps p.tables e below (T.setTop (mkF m pc Ls st)) t := by
  unfold own_x_ishl at h
  split at h
  · cases h
    exact XS.ishl X.here hx rfl hd rfl r
  · cases h
def own_x_ishr (Ls : Array Slot) (st : List Value) : Option (Array Slot × List Value) := match st with | .int y :: .int x :: rest => (some (Ls, .int (x >>> (y &&& 31)) :: rest)) | _ => none
theorem own_x_ishr_s (X : Stand p l e R s m args below meth c T locs cells slots) (hx : p.tables.exec = Jvm.exec) (hd : decode c.code pc = .ok (.ishr, 1)) (h : own_x_ishr Ls st = some (Ls', st')) (t : State) (r : Steps p.tables e below (T.setTop (mkF m (pc + 1) Ls' st')) t) : Steps p.tables e below (T.setTop (mkF m pc Ls st)) t := by
  unfold own_x_ishr at h
  split at h
  · cases h
    exact XS.ishr X.here hx rfl hd rfl r
  · cases h
def own_x_iushr (Ls : Array Slot) (st : List Value) : Option (Array Slot × List Value) := match st with | .int y :: .int x :: rest => (some (Ls, .int ((x.toUInt32 >>> (y &&& 31).toUInt32).toInt32) :: rest)) | _ => none
theorem own_x_iushr_s (X : Stand p l e R s m args below meth c T locs cells slots) (hx : p.tables.exec = Jvm.exec) (hd : decode c.code pc = .ok (.iushr, 1)) (h : own_x_iushr Ls st = some (Ls', st')) (t : State) (r : Steps p.tables e below (T.setTop (mkF m (pc + 1) Ls' st')) t) : Steps p.tables e below (T.setTop (mkF m pc Ls st)) t := by
  unfold own_x_iushr at h
  split at h
  · cases h
    exact XS.iushr X.here hx rfl hd rfl r
  · cases h
def own_x_ladd (Ls : Array Slot) (st : List Value) : Option (Array Slot × List Value) := match st with | .long y :: .long x :: rest => (some (Ls, .long (x + y) :: rest)) | _ => none
theorem own_x_ladd_s (X : Stand p l e R s m args below meth c T locs cells slots) (hx : p.tables.exec = Jvm.exec) (hd : decode c.code pc = .ok (.ladd, 1)) (h : own_x_ladd Ls st = some (Ls', st')) (t : State) (r : Steps p.tables e below (T.setTop (mkF m (pc + 1) Ls' st')) t) : Steps p.tables e below (T.setTop (mkF m pc Ls st)) t := by
  unfold own_x_ladd at h
  split at h
  · cases h
    exact XS.ladd X.here hx rfl hd rfl r
  · cases h
def own_x_lsub (Ls : Array Slot) (st : List Value) : Option (Array Slot × List Value) := match st with | .long y :: .long x :: rest => (some (Ls, .long (x - y) :: rest)) | _ => none
theorem own_x_lsub_s (X : Stand p l e R s m args below meth c T locs cells slots) (hx : p.tables.exec = Jvm.exec) (hd : decode c.code pc = .ok (.lsub, 1)) (h : own_x_lsub Ls st = some (Ls', st')) (t : State) (r : Steps p.tables e below (T.setTop (mkF m (pc + 1) Ls' st')) t) : Steps p.tables e below (T.setTop (mkF m pc Ls st)) t := by
  unfold own_x_lsub at h
  split at h
  · cases h
    exact XS.lsub X.here hx rfl hd rfl r
  · cases h
def own_x_land (Ls : Array Slot) (st : List Value) : Option (Array Slot × List Value) := match st with | .long y :: .long x :: rest => (some (Ls, .long (x &&& y) :: rest)) | _ => none
theorem own_x_land_s (X : Stand p l e R s m args below meth c T locs cells slots) (hx : p.tables.exec = Jvm.exec) (hd : decode c.code pc = .ok (.land, 1)) (h : own_x_land Ls st = some (Ls', st')) (t : State) (r : Steps p.tables e below (T.setTop (mkF m (pc + 1) Ls' st')) t) : Steps p.tables e below (T.setTop (mkF m pc Ls st)) t := by
  unfold own_x_land at h
  split at h
  · cases h
    exact XS.land X.here hx rfl hd rfl r
  · cases h
def own_x_lxor (Ls : Array Slot) (st : List Value) : Option (Array Slot × List Value) := match st with | .long y :: .long x :: rest => (some (Ls, .long (x ^^^ y) :: rest)) | _ => none
theorem own_x_lxor_s (X : Stand p l e R s m args below meth c T locs cells slots) (hx : p.tables.exec = Jvm.exec) (hd : decode c.code pc = .ok (.lxor, 1)) (h : own_x_lxor Ls st = some (Ls', st')) (t : State) (r : Steps p.tables e below (T.setTop (mkF m (pc + 1) Ls' st')) t) : Steps p.tables e below (T.setTop (mkF m pc Ls st)) t := by
  unfold own_x_lxor at h
  split at h
  · cases h
    exact XS.lxor X.here hx rfl hd rfl r
  · cases h
def own_x_i2b (Ls : Array Slot) (st : List Value) : Option (Array Slot × List Value) := match st with | .int x :: rest => (some (Ls, .int x.toInt8.toInt32 :: rest)) | _ => none
theorem own_x_i2b_s (X : Stand p l e R s m args below meth c T locs cells slots) (hx : p.tables.exec = Jvm.exec) (hd : decode c.code pc = .ok (.i2b, 1)) (h : own_x_i2b Ls st = some (Ls', st')) (t : State) (r : Steps p.tables e below (T.setTop (mkF m (pc + 1) Ls' st')) t) : Steps p.tables e below (T.setTop (mkF m pc Ls st)) t := by
  unfold own_x_i2b at h
  split at h
  · cases h
    exact XS.i2b X.here hx rfl hd rfl r
  · cases h
def own_x_i2c (Ls : Array Slot) (st : List Value) : Option (Array Slot × List Value) := match st with | .int x :: rest => (some (Ls, .int x.toUInt32.toUInt16.toUInt32.toInt32 :: rest)) | _ => none
theorem own_x_i2c_s (X : Stand p l e R s m args below meth c T locs cells slots) (hx : p.tables.exec = Jvm.exec) (hd : decode c.code pc = .ok (.i2c, 1)) (h : own_x_i2c Ls st = some (Ls', st')) (t : State) (r : Steps p.tables e below (T.setTop (mkF m (pc + 1) Ls' st')) t) : Steps p.tables e below (T.setTop (mkF m pc Ls st)) t := by
  unfold own_x_i2c at h
  split at h
  · cases h
    exact XS.i2c X.here hx rfl hd rfl r
  · cases h
def own_x_i2l (Ls : Array Slot) (st : List Value) : Option (Array Slot × List Value) := match st with | .int x :: rest => (some (Ls, .long x.toInt64 :: rest)) | _ => none
theorem own_x_i2l_s (X : Stand p l e R s m args below meth c T locs cells slots) (hx : p.tables.exec = Jvm.exec) (hd : decode c.code pc = .ok (.i2l, 1)) (h : own_x_i2l Ls st = some (Ls', st')) (t : State) (r : Steps p.tables e below (T.setTop (mkF m (pc + 1) Ls' st')) t) : Steps p.tables e below (T.setTop (mkF m pc Ls st)) t := by
  unfold own_x_i2l at h
  split at h
  · cases h
    exact XS.i2l X.here hx rfl hd rfl r
  · cases h
def own_x_l2i (Ls : Array Slot) (st : List Value) : Option (Array Slot × List Value) := match st with | .long x :: rest => (some (Ls, .int x.toInt32 :: rest)) | _ => none
theorem own_x_l2i_s (X : Stand p l e R s m args below meth c T locs cells slots) (hx : p.tables.exec = Jvm.exec) (hd : decode c.code pc = .ok (.l2i, 1)) (h : own_x_l2i Ls st = some (Ls', st')) (t : State) (r : Steps p.tables e below (T.setTop (mkF m (pc + 1) Ls' st')) t) : Steps p.tables e below (T.setTop (mkF m pc Ls st)) t := by
  unfold own_x_l2i at h
  split at h
  · cases h
    exact XS.l2i X.here hx rfl hd rfl r
  · cases h
def own_x_ineg (Ls : Array Slot) (st : List Value) : Option (Array Slot × List Value) := match st with | .int x :: rest => (some (Ls, .int (-x) :: rest)) | _ => none
theorem own_x_ineg_s (X : Stand p l e R s m args below meth c T locs cells slots) (hx : p.tables.exec = Jvm.exec) (hd : decode c.code pc = .ok (.ineg, 1)) (h : own_x_ineg Ls st = some (Ls', st')) (t : State) (r : Steps p.tables e below (T.setTop (mkF m (pc + 1) Ls' st')) t) : Steps p.tables e below (T.setTop (mkF m pc Ls st)) t := by
  unfold own_x_ineg at h
  split at h
  · cases h
    exact XS.ineg X.here hx rfl hd rfl r
  · cases h
def own_x_lneg (Ls : Array Slot) (st : List Value) : Option (Array Slot × List Value) := match st with | .long x :: rest => (some (Ls, .long (-x) :: rest)) | _ => none
theorem own_x_lneg_s (X : Stand p l e R s m args below meth c T locs cells slots) (hx : p.tables.exec = Jvm.exec) (hd : decode c.code pc = .ok (.lneg, 1)) (h : own_x_lneg Ls st = some (Ls', st')) (t : State) (r : Steps p.tables e below (T.setTop (mkF m (pc + 1) Ls' st')) t) : Steps p.tables e below (T.setTop (mkF m pc Ls st)) t := by
  unfold own_x_lneg at h
  split at h
  · cases h
    exact XS.lneg X.here hx rfl hd rfl r
  · cases h
def own_x_dup (Ls : Array Slot) (st : List Value) : Option (Array Slot × List Value) := match st with | .ref v :: rest => (some (Ls, .ref v :: .ref v :: rest)) | .null :: rest => (some (Ls, .null :: .null :: rest)) | .int v :: rest => (some (Ls, .int v :: .int v :: rest)) | _ => none
theorem own_x_dup_s (X : Stand p l e R s m args below meth c T locs cells slots) (hx : p.tables.exec = Jvm.exec) (hd : decode c.code pc = .ok (.dup, 1)) (h : own_x_dup Ls st = some (Ls', st')) (t : State) (r : Steps p.tables e below (T.setTop (mkF m (pc + 1) Ls' st')) t) : Steps p.tables e below (T.setTop (mkF m pc Ls st)) t := by
  unfold own_x_dup at h
  split at h
  · cases h
    exact XS.dup X.here hx rfl hd rfl rfl r
  · cases h
    exact XS.dup X.here hx rfl hd rfl rfl r
  · cases h
    exact XS.dup X.here hx rfl hd rfl rfl r
  · cases h
def own_x_pop (Ls : Array Slot) (st : List Value) : Option (Array Slot × List Value) := match st with | .ref v :: rest => (some (Ls, rest)) | .null :: rest => (some (Ls, rest)) | .int v :: rest => (some (Ls, rest)) | _ => none
theorem own_x_pop_s (X : Stand p l e R s m args below meth c T locs cells slots) (hx : p.tables.exec = Jvm.exec) (hd : decode c.code pc = .ok (.pop, 1)) (h : own_x_pop Ls st = some (Ls', st')) (t : State) (r : Steps p.tables e below (T.setTop (mkF m (pc + 1) Ls' st')) t) : Steps p.tables e below (T.setTop (mkF m pc Ls st)) t := by
  unfold own_x_pop at h
  split at h
  · cases h
    exact XS.pop X.here hx rfl hd rfl rfl r
  · cases h
    exact XS.pop X.here hx rfl hd rfl rfl r
  · cases h
    exact XS.pop X.here hx rfl hd rfl rfl r
  · cases h
def own_x_dup_x1 (Ls : Array Slot) (st : List Value) : Option (Array Slot × List Value) := match st with | .ref v :: .ref y :: rest => (some (Ls, .ref v :: .ref y :: .ref v :: rest)) | .null :: .ref y :: rest => (some (Ls, .null :: .ref y :: .null :: rest)) | .int v :: .ref y :: rest => (some (Ls, .int v :: .ref y :: .int v :: rest)) | _ => none
theorem own_x_dup_x1_s (X : Stand p l e R s m args below meth c T locs cells slots) (hx : p.tables.exec = Jvm.exec) (hd : decode c.code pc = .ok (.dup_x1, 1)) (h : own_x_dup_x1 Ls st = some (Ls', st')) (t : State) (r : Steps p.tables e below (T.setTop (mkF m (pc + 1) Ls' st')) t) : Steps p.tables e below (T.setTop (mkF m pc Ls st)) t := by
  unfold own_x_dup_x1 at h
  split at h
  · cases h
    exact XS.dupX1 X.here hx rfl hd rfl rfl rfl r
  · cases h
    exact XS.dupX1 X.here hx rfl hd rfl rfl rfl r
  · cases h
    exact XS.dupX1 X.here hx rfl hd rfl rfl rfl r
  · cases h
def own_x_iinc (k : Nat) (i : Int) (Ls : Array Slot) (st : List Value) : Option (Array Slot × List Value) := match Ls[k]? with | some (.val (.int x)) => (match storeLocals Ls k (.int (x + Int32.ofInt i)) with | some l' => some (l', st) | none => none) | _ => none
theorem own_x_iinc_s (X : Stand p l e R s m args below meth c T locs cells slots) (hx : p.tables.exec = Jvm.exec) {k : Nat} {i : Int} (hd : decode c.code pc = .ok (.iinc k i, 3)) (h : own_x_iinc k i Ls st = some (Ls', st')) (t : State) (r : Steps p.tables e below (T.setTop (mkF m (pc + 3) Ls' st')) t) : Steps p.tables e below (T.setTop (mkF m pc Ls st)) t := by
  unfold own_x_iinc at h
  split at h
  · rename_i hv
    split at h
    · rename_i ho
      cases h
      exact XS.iinc X.here hx rfl hd hv ho r
    · cases h
  · cases h
def own_ex (i : Instr) (n : Nat) (Ls : Array Slot) (st : List Value) : Option (Array Slot × List Value) := match i, n with | .iload k, 2 => own_x_iload k Ls st | .iload_n k, 1 => own_x_iload_n k Ls st | .lload k, 2 => own_x_lload k Ls st | .lload_n k, 1 => own_x_lload_n k Ls st | .aload k, 2 => own_x_aload k Ls st | .aload_n k, 1 => own_x_aload_n k Ls st | .istore k, 2 => own_x_istore k Ls st | .istore_n k, 1 => own_x_istore_n k Ls st | .lstore k, 2 => own_x_lstore k Ls st | .lstore_n k, 1 => own_x_lstore_n k Ls st | .astore k, 2 => own_x_astore k Ls st | .astore_n k, 1 => own_x_astore_n k Ls st | .iconst i, 1 => own_x_iconst i Ls st | .bipush i, 2 => own_x_bipush i Ls st | .sipush i, 3 => own_x_sipush i Ls st | .aconst_null, 1 => own_x_aconst_null Ls st | .iadd, 1 => own_x_iadd Ls st | .isub, 1 => own_x_isub Ls st | .imul, 1 => own_x_imul Ls st | .iand, 1 => own_x_iand Ls st | .ior, 1 => own_x_ior Ls st | .ixor, 1 => own_x_ixor Ls st | .ishl, 1 => own_x_ishl Ls st | .ishr, 1 => own_x_ishr Ls st | .iushr, 1 => own_x_iushr Ls st | .ladd, 1 => own_x_ladd Ls st | .lsub, 1 => own_x_lsub Ls st | .land, 1 => own_x_land Ls st | .lxor, 1 => own_x_lxor Ls st | .i2b, 1 => own_x_i2b Ls st | .i2c, 1 => own_x_i2c Ls st | .i2l, 1 => own_x_i2l Ls st | .l2i, 1 => own_x_l2i Ls st | .ineg, 1 => own_x_ineg Ls st | .lneg, 1 => own_x_lneg Ls st | .dup, 1 => own_x_dup Ls st | .pop, 1 => own_x_pop Ls st | .dup_x1, 1 => own_x_dup_x1 Ls st | .iinc k i, 3 => own_x_iinc k i Ls st | _, _ => none
theorem own_ex_s (X : Stand p l e R s m args below meth c T locs cells slots) (hx : p.tables.exec = Jvm.exec) {i : Instr} {n : Nat} (hd : decode c.code pc = .ok (i, n)) (h : own_ex i n Ls st = some (Ls', st')) (t : State) (r : Steps p.tables e below (T.setTop (mkF m (pc + n) Ls' st')) t) : Steps p.tables e below (T.setTop (mkF m pc Ls st)) t := by
  unfold own_ex at h
  split at h
  · exact own_x_iload_s X hx hd h t r
  · exact own_x_iload_n_s X hx hd h t r
  · exact own_x_lload_s X hx hd h t r
  · exact own_x_lload_n_s X hx hd h t r
  · exact own_x_aload_s X hx hd h t r
  · exact own_x_aload_n_s X hx hd h t r
  · exact own_x_istore_s X hx hd h t r
  · exact own_x_istore_n_s X hx hd h t r
  · exact own_x_lstore_s X hx hd h t r
  · exact own_x_lstore_n_s X hx hd h t r
  · exact own_x_astore_s X hx hd h t r
  · exact own_x_astore_n_s X hx hd h t r
  · exact own_x_iconst_s X hx hd h t r
  · exact own_x_bipush_s X hx hd h t r
  · exact own_x_sipush_s X hx hd h t r
  · exact own_x_aconst_null_s X hx hd h t r
  · exact own_x_iadd_s X hx hd h t r
  · exact own_x_isub_s X hx hd h t r
  · exact own_x_imul_s X hx hd h t r
  · exact own_x_iand_s X hx hd h t r
  · exact own_x_ior_s X hx hd h t r
  · exact own_x_ixor_s X hx hd h t r
  · exact own_x_ishl_s X hx hd h t r
  · exact own_x_ishr_s X hx hd h t r
  · exact own_x_iushr_s X hx hd h t r
  · exact own_x_ladd_s X hx hd h t r
  · exact own_x_lsub_s X hx hd h t r
  · exact own_x_land_s X hx hd h t r
  · exact own_x_lxor_s X hx hd h t r
  · exact own_x_i2b_s X hx hd h t r
  · exact own_x_i2c_s X hx hd h t r
  · exact own_x_i2l_s X hx hd h t r
  · exact own_x_l2i_s X hx hd h t r
  · exact own_x_ineg_s X hx hd h t r
  · exact own_x_lneg_s X hx hd h t r
  · exact own_x_dup_s X hx hd h t r
  · exact own_x_pop_s X hx hd h t r
  · exact own_x_dup_x1_s X hx hd h t r
  · exact own_x_iinc_s X hx hd h t r
  · cases h
def own_exs : List (Instr × Nat) → Array Slot → List Value → Option (Array Slot × List Value)
  | [], Ls, st => some (Ls, st)
  | (i, n) :: is, Ls, st => match own_ex i n Ls st with | some (Ls1, st1) => own_exs is Ls1 st1 | none => none
def own_dec (b : ByteArray) : Nat → List (Instr × Nat) → Bool
  | _, [] => true
  | pc, (i, n) :: is => decide (decode b pc = .ok (i, n)) && own_dec b (pc + n) is
def own_end : Nat → List (Instr × Nat) → Nat
  | pc, [] => pc
  | pc, (_, n) :: is => own_end (pc + n) is
theorem own_run (X : Stand p l e R s m args below meth c T locs cells slots) (hx : p.tables.exec = Jvm.exec) {b : ByteArray} (hb : c.code = b) : ∀ (is : List (Instr × Nat)) {pc : Nat} {Ls : Array Slot} {st : List Value}, own_dec b pc is = true → own_exs is Ls st = some (Ls', st') → ∀ t, Steps p.tables e below (T.setTop (mkF m (own_end pc is) Ls' st')) t → Steps p.tables e below (T.setTop (mkF m pc Ls st)) t
  | [], pc, Ls, st, _, h, t, r => by cases h; exact r
  | (i, n) :: is, pc, Ls, st, hd, h, t, r => by
    unfold own_dec at hd
    unfold own_exs at h
    obtain ⟨h1, h2⟩ := Bool.and_eq_true_iff.mp hd
    split at h
    · rename_i Ls1 st1 h3
      exact own_ex_s X hx (by rw [hb]; exact of_decide_eq_true h1) h3 t (own_run X hx hb is h2 h t r)
    · cases h
theorem own_ru (q : Nat) (st' : List Value) (X : Stand p l e R s m args below meth c T locs cells slots) (hx : p.tables.exec = Jvm.exec) {b : ByteArray} (hb : c.code = b) {is : List (Instr × Nat)} (hd : own_dec b pc is = true) (h : own_exs is Ls st = some (Ls, st')) (hq : own_end pc is = q) (k : own_Fin p.tables e below Post (T.setTop (mkF m q Ls st'))) : own_Fin p.tables e below Post (T.setTop (mkF m pc Ls st)) := by
  subst hq
  exact own_Fin.step (own_run X hx hb is hd h) k
theorem own_rl (q : Nat) (Ls' : Array Slot) (st' : List Value) (X : Stand p l e R s m args below meth c T locs cells slots) (hx : p.tables.exec = Jvm.exec) {b : ByteArray} (hb : c.code = b) {is : List (Instr × Nat)} (hd : own_dec b pc is = true) (h : own_exs is Ls st = some (Ls', st')) (hq : own_end pc is = q) (k : own_Fin p.tables e below Post (T.setTop (mkF m q Ls' st'))) : own_Fin p.tables e below Post (T.setTop (mkF m pc Ls st)) := by
  subst hq
  exact own_Fin.step (own_run X hx hb is hd h) k
end Run
end Jvm.RoadKit
namespace Jvm.RoadKit
open Sem ClassFile Op Lib Jvm.Stand Jvm.Free Jvm.LawKit
abbrev own_rm (f c s l : Nat) : Room := { frames := f, cells := c, slots := s, locals := l }
/-- the contract of a body: handed 'as' at the heap h0 it returns, and Q tells what -/
abbrev own_Met (l : Launch) (y : MethodName) (b : ByteArray) (ml : Nat) (rt : Option FieldType) (ws : List Cond) (rm : Room) (as : Array Value) (Z : State) (h0 : Heap) (Q : Option Value → Heap → List Loc → Prop) (kc ks : Nat) : Prop :=
  MetFree l y (head1 (Cond.code y b ml rt :: ws) rm) (fun a U => a = as ∧ Z.Warmed39 U.vm ∧ U.heap = h0) (fun _ _ _ _ _ => True) (fun _ U o U' => ∃ v L, o = .returned v ∧ Q v U'.heap L ∧ FrameEnd U o U' L kc ks)
theorem own_body {l : Launch} {y : MethodName} {b : ByteArray} {ml : Nat} {rt : Option FieldType} {ws : List Cond} {rm : Room} {as : Array Value} {Z : State} {h0 : Heap} {Q : Option Value → Heap → List Loc → Prop} {kc ks : Nat} (hpl : plainFor y = true) {Ls : Array Slot} (hef : ∀ m, entryFrame m as ml = mkF m 0 Ls [])
    (k : ∀ (p : Program) (e : Env) (s : State) (m : MethodId) (below : List Frame) (meth : Method) (c : Code) (T : State), Stand p l e rm s m as below meth c T [] 0 0 → p.tables.exec = Jvm.exec → c.code = b → c.maxLocals = ml → Z.Warmed39 s.vm → T.heap = h0 → s.vm.findClass y.cls = some m.cls → meth.name = y.name → meth.locks = false → meth.sig.returnType = rt →
      own_Fin p.tables e below (own_post Q s kc ks) (T.setTop (mkF m 0 Ls []))) : own_Met l y b ml rt ws rm as Z h0 Q kc ks := by
  refine MetFree.of_bodySF hpl hisR ?_
  intro p e s m args below meth c s₁ Bd hml0 hP hK
  obtain ⟨rfl, hZ, hh⟩ := hP
  have X0 : Stand p l e rm s m args below meth c s₁ [] 0 0 := Stand.of_body Bd
  have e0 : s₁.heap = h0 := by rw [← hh, Bd.state]; rfl
  have k1 := k p e s m below meth c s₁ X0 Bd.exec Bd.bytes hml0 hZ e0 (findClass_of_methodNamed Bd.named) (name_of_methodNamed Bd.named Bd.method).1 (BodyLoose.notSynchronized Bd) Bd.returns
  show own_Fin p.tables e below (own_post Q s kc ks) (s₁.setTop (entryFrame m args ml))
  rw [hef m]
  exact k1
theorem own_insKeep {Z : State} {h h' : Heap} {b : Addr} {C : String} {bo : Bool} {ws : List Addr} (F : Ins Z h b C bo) (K : Keep h h' ws) : Ins Z h' b C bo := by
  obtain ⟨cell, k, h1, r⟩ := F
  obtain ⟨c', q, e1, e2, -⟩ := K.2.2 _ _ h1
  refine ⟨c', k, q, ?_⟩
  rw [e1, e2]
  exact r
end Jvm.RoadKit

namespace Jvm.Pilot.@@N@@
open Jvm Jvm.ClassFile Sem Op Lib Jvm.Free Jvm.Stand Jvm.LawKit Jvm.RoadKit Bundle Jvm.Pilot.@@N@@.Jvm.D
abbrev OW (a0 : Array Value) (Z : State) : Prop := ∀ d ∈ tables_1, d.before a0 Z = true
abbrev nm0 : MethodName := (⟨"java/lang/Object", "<init>", "()V"⟩ : MethodName)
abbrev nm1 : MethodName := (⟨"java/lang/Number", "<init>", "()V"⟩ : MethodName)
abbrev nm2 : MethodName := (⟨"java/math/BigInteger", "<init>", "(J)V"⟩ : MethodName)
abbrev nm3 : MethodName := (⟨"java/util/AbstractCollection", "<init>", "()V"⟩ : MethodName)
abbrev nm4 : MethodName := (⟨"java/util/AbstractList", "<init>", "()V"⟩ : MethodName)
abbrev nm5 : MethodName := (⟨"java/lang/Math", "max", "(II)I"⟩ : MethodName)
abbrev nm6 : MethodName := (⟨"java/util/ArrayList", "grow", "(I)[Ljava/lang/Object;"⟩ : MethodName)
abbrev nm7 : MethodName := (⟨"java/util/ArrayList", "grow", "()[Ljava/lang/Object;"⟩ : MethodName)
abbrev nm8 : MethodName := (⟨"java/util/ArrayList", "add", "(Ljava/lang/Object;[Ljava/lang/Object;I)V"⟩ : MethodName)
abbrev nm9 : MethodName := (⟨"jdk/internal/util/Preconditions", "checkIndex", "(IILjava/util/function/BiFunction;)I"⟩ : MethodName)
abbrev nm10 : MethodName := (⟨"java/util/Objects", "checkIndex", "(II)I"⟩ : MethodName)
abbrev nm11 : MethodName := (⟨"java/util/ArrayList", "elementData", "(I)Ljava/lang/Object;"⟩ : MethodName)
abbrev nm12 : MethodName := (⟨"java/util/ArrayList", "<init>", "()V"⟩ : MethodName)
abbrev nm13 : MethodName := (⟨"java/util/List", "isEmpty", "()Z"⟩ : MethodName)
abbrev nm14 : MethodName := (⟨"java/util/ArrayList", "isEmpty", "()Z"⟩ : MethodName)
abbrev nm15 : MethodName := (⟨"java/util/List", "size", "()I"⟩ : MethodName)
abbrev nm16 : MethodName := (⟨"java/util/ArrayList", "size", "()I"⟩ : MethodName)
abbrev nm17 : MethodName := (⟨"java/util/List", "get", "(I)Ljava/lang/Object;"⟩ : MethodName)
abbrev nm18 : MethodName := (⟨"java/util/ArrayList", "get", "(I)Ljava/lang/Object;"⟩ : MethodName)
abbrev nm19 : MethodName := (⟨"com/example/tariff/tariff/SupplyVoltages$Voltage", "<init>", "(Ljava/math/BigInteger;Lcom/example/tariff/tariff/VoltageClass;Ljava/math/BigInteger;Ljava/math/BigInteger;)V"⟩ : MethodName)
abbrev nm20 : MethodName := (⟨"java/util/List", "add", "(Ljava/lang/Object;)Z"⟩ : MethodName)
abbrev nm21 : MethodName := (⟨"java/util/ArrayList", "add", "(Ljava/lang/Object;)Z"⟩ : MethodName)
abbrev nm22 : MethodName := (⟨"java/math/BigInteger", "valueOf", "(J)Ljava/math/BigInteger;"⟩ : MethodName)
abbrev nm23 : MethodName := (⟨"com/example/tariff/tariff/SupplyVoltages", "<init>", "(Ljava/util/List;Ljava/util/List;Ljava/util/List;)V"⟩ : MethodName)
abbrev nm24 : MethodName := (⟨"com/example/tariff/tariff/SupplyVoltages", "below", "()Ljava/math/BigInteger;"⟩ : MethodName)
abbrev nm25 : MethodName := (⟨"java/math/BigInteger", "equals", "(Ljava/lang/Object;)Z"⟩ : MethodName)
abbrev ex0 (Z : State) (h : Heap) (a : Addr) : Prop := Exa Z h a "com/example/tariff/tariff/VoltageClass"
abbrev ex1 (Z : State) (h : Heap) (a : Addr) : Prop := Exa Z h a "java/math/BigInteger"
abbrev fl2 (Z : State) (h : Heap) (a : Addr) (v : Value) : Prop := Fld Z h a "java/math/BigInteger" "signum" "I" v
abbrev fl3 (Z : State) (h : Heap) (a : Addr) (v : Value) : Prop := Fld Z h a "java/math/BigInteger" "mag" "[I" v
abbrev ex4 (Z : State) (h : Heap) (a : Addr) : Prop := Exa Z h a "java/util/ArrayList"
abbrev fl5 (Z : State) (h : Heap) (a : Addr) (v : Value) : Prop := Fld Z h a "java/util/AbstractList" "modCount" "I" v
abbrev fl6 (Z : State) (h : Heap) (a : Addr) (v : Value) : Prop := Fld Z h a "java/util/ArrayList" "size" "I" v
abbrev fl7 (Z : State) (h : Heap) (a : Addr) (v : Value) : Prop := Fld Z h a "java/util/ArrayList" "elementData" "[Ljava/lang/Object;" v
abbrev ex8 (Z : State) (h : Heap) (a : Addr) : Prop := Exa Z h a "com/example/tariff/tariff/SupplyVoltages$Voltage"
abbrev fl9 (Z : State) (h : Heap) (a : Addr) (v : Value) : Prop := Fld Z h a "com/example/tariff/tariff/SupplyVoltages$Voltage" "volts" "Ljava/math/BigInteger;" v
abbrev fl10 (Z : State) (h : Heap) (a : Addr) (v : Value) : Prop := Fld Z h a "com/example/tariff/tariff/SupplyVoltages$Voltage" "voltageClass" "Lcom/example/tariff/tariff/VoltageClass;" v
abbrev fl11 (Z : State) (h : Heap) (a : Addr) (v : Value) : Prop := Fld Z h a "com/example/tariff/tariff/SupplyVoltages$Voltage" "from" "Ljava/math/BigInteger;" v
abbrev fl12 (Z : State) (h : Heap) (a : Addr) (v : Value) : Prop := Fld Z h a "com/example/tariff/tariff/SupplyVoltages$Voltage" "below" "Ljava/math/BigInteger;" v
abbrev ex13 (Z : State) (h : Heap) (a : Addr) : Prop := Exa Z h a "com/example/tariff/tariff/SupplyVoltages"
abbrev fl14 (Z : State) (h : Heap) (a : Addr) (v : Value) : Prop := Fld Z h a "com/example/tariff/tariff/SupplyVoltages" "voltages" "Ljava/util/List;" v
theorem wd0 {a0 : Array Value} {Z : State} (hw : OW a0 Z) : (Jvm.Cond.constant "com/example/tariff/tariff/SupplyVoltagesBelowPinLaw" (7 : Nat) (2147483647 : Int32)).before a0 Z = true := hw _ (List.mem_of_getElem? (i := 0) rfl)
theorem wd1 {a0 : Array Value} {Z : State} (hw : OW a0 Z) : (Jvm.Cond.constant "com/example/tariff/tariff/SupplyVoltagesBelowPinLaw" (8 : Nat) (65535 : Int32)).before a0 Z = true := hw _ (List.mem_of_getElem? (i := 1) rfl)
theorem wd2 {a0 : Array Value} {Z : State} (hw : OW a0 Z) : (Jvm.Cond.methodLink "com/example/tariff/tariff/SupplyVoltagesBelowPinLaw" (9 : Nat) nm22).before a0 Z = true := hw _ (List.mem_of_getElem? (i := 2) rfl)
theorem wd3 {a0 : Array Value} {Z : State} (hw : OW a0 Z) : (Jvm.Cond.static nm22).before a0 Z = true := hw _ (List.mem_of_getElem? (i := 3) rfl)
theorem wd4 {a0 : Array Value} {Z : State} (hw : OW a0 Z) : (Jvm.Cond.initialized "java/math/BigInteger").before a0 Z = true := hw _ (List.mem_of_getElem? (i := 4) rfl)
theorem wd5 {a0 : Array Value} {Z : State} (hw : OW a0 Z) : (Jvm.Cond.code nm22 jdk_2097_method_29_code (2 : Nat) (Option.some (Jvm.ClassFile.FieldType.object "java/math/BigInteger"))).before a0 Z = true := hw _ (List.mem_of_getElem? (i := 5) rfl)
theorem wd6 {a0 : Array Value} {Z : State} (hw : OW a0 Z) : (Jvm.Cond.constantLong "java/math/BigInteger" (345 : Nat) (16 : Int64)).before a0 Z = true := hw _ (List.mem_of_getElem? (i := 6) rfl)
theorem wd7 {a0 : Array Value} {Z : State} (hw : OW a0 Z) : (Jvm.Cond.fieldLink "java/math/BigInteger" (347 : Nat) "java/math/BigInteger" "posConst" "[Ljava/math/BigInteger;").before a0 Z = true := hw _ (List.mem_of_getElem? (i := 7) rfl)
theorem wd8 {a0 : Array Value} {Z : State} (hw : OW a0 Z) : (Jvm.Cond.constantLong "java/math/BigInteger" (351 : Nat) (-16 : Int64)).before a0 Z = true := hw _ (List.mem_of_getElem? (i := 8) rfl)
theorem wd9 {a0 : Array Value} {Z : State} (hw : OW a0 Z) : (Jvm.Cond.classLink "java/math/BigInteger" (23 : Nat) "java/math/BigInteger").before a0 Z = true := hw _ (List.mem_of_getElem? (i := 9) rfl)
theorem wd10 {a0 : Array Value} {Z : State} (hw : OW a0 Z) : (Jvm.Cond.instantiable "java/math/BigInteger" (6 : Nat)).before a0 Z = true := hw _ (List.mem_of_getElem? (i := 10) rfl)
theorem wd11 {a0 : Array Value} {Z : State} (hw : OW a0 Z) : (Jvm.Cond.methodLink "java/math/BigInteger" (356 : Nat) nm2).before a0 Z = true := hw _ (List.mem_of_getElem? (i := 11) rfl)
theorem wd12 {a0 : Array Value} {Z : State} (hw : OW a0 Z) : (Jvm.Cond.instanceMethod nm2).before a0 Z = true := hw _ (List.mem_of_getElem? (i := 12) rfl)
theorem wd14 {a0 : Array Value} {Z : State} (hw : OW a0 Z) : (Jvm.Cond.code nm2 jdk_2097_method_30_code (4 : Nat) (Option.none : Option Jvm.ClassFile.FieldType)).before a0 Z = true := hw _ (List.mem_of_getElem? (i := 14) rfl)
theorem wd15 {a0 : Array Value} {Z : State} (hw : OW a0 Z) : (Jvm.Cond.methodLink "java/math/BigInteger" (3 : Nat) nm1).before a0 Z = true := hw _ (List.mem_of_getElem? (i := 15) rfl)
theorem wd16 {a0 : Array Value} {Z : State} (hw : OW a0 Z) : (Jvm.Cond.instanceMethod nm1).before a0 Z = true := hw _ (List.mem_of_getElem? (i := 16) rfl)
theorem wd19 {a0 : Array Value} {Z : State} (hw : OW a0 Z) : (Jvm.Cond.initialized "java/lang/Number").before a0 Z = true := hw _ (List.mem_of_getElem? (i := 19) rfl)
theorem wd20 {a0 : Array Value} {Z : State} (hw : OW a0 Z) : (Jvm.Cond.code nm1 jdk_18_method_1_code (1 : Nat) (Option.none : Option Jvm.ClassFile.FieldType)).before a0 Z = true := hw _ (List.mem_of_getElem? (i := 20) rfl)
theorem wd21 {a0 : Array Value} {Z : State} (hw : OW a0 Z) : (Jvm.Cond.methodLink "java/lang/Number" (1 : Nat) nm0).before a0 Z = true := hw _ (List.mem_of_getElem? (i := 21) rfl)
theorem wd22 {a0 : Array Value} {Z : State} (hw : OW a0 Z) : (Jvm.Cond.instanceMethod nm0).before a0 Z = true := hw _ (List.mem_of_getElem? (i := 22) rfl)
theorem wd23 {a0 : Array Value} {Z : State} (hw : OW a0 Z) : (Jvm.Cond.code nm0 object_method_1_code (1 : Nat) (Option.none : Option Jvm.ClassFile.FieldType)).before a0 Z = true := hw _ (List.mem_of_getElem? (i := 23) rfl)
theorem wd24 {a0 : Array Value} {Z : State} (hw : OW a0 Z) : (Jvm.Cond.fieldLink "java/math/BigInteger" (32 : Nat) "java/math/BigInteger" "signum" "I").before a0 Z = true := hw _ (List.mem_of_getElem? (i := 24) rfl)
theorem wd25 {a0 : Array Value} {Z : State} (hw : OW a0 Z) : (Jvm.Cond.laysFinal "java/math/BigInteger" "java/math/BigInteger" "signum" "I").before a0 Z = true := hw _ (List.mem_of_getElem? (i := 25) rfl)
theorem wd26 {a0 : Array Value} {Z : State} (hw : OW a0 Z) : (Jvm.Cond.arrayClass Jvm.ClassFile.FieldType.int).before a0 Z = true := hw _ (List.mem_of_getElem? (i := 26) rfl)
theorem wd27 {a0 : Array Value} {Z : State} (hw : OW a0 Z) : (Jvm.Cond.fieldLink "java/math/BigInteger" (28 : Nat) "java/math/BigInteger" "mag" "[I").before a0 Z = true := hw _ (List.mem_of_getElem? (i := 27) rfl)
theorem wd28 {a0 : Array Value} {Z : State} (hw : OW a0 Z) : (Jvm.Cond.laysFinal "java/math/BigInteger" "java/math/BigInteger" "mag" "[I").before a0 Z = true := hw _ (List.mem_of_getElem? (i := 28) rfl)
theorem wd29 {a0 : Array Value} {Z : State} (hw : OW a0 Z) : (Jvm.Cond.fieldLink "com/example/tariff/tariff/SupplyVoltagesBelowPinLaw" (21 : Nat) "com/example/tariff/tariff/VoltageClass" "EXTRA_HIGH" "Lcom/example/tariff/tariff/VoltageClass;").before a0 Z = true := hw _ (List.mem_of_getElem? (i := 29) rfl)
theorem wd32 {a0 : Array Value} {Z : State} (hw : OW a0 Z) : (Jvm.Cond.classLink "com/example/tariff/tariff/SupplyVoltagesBelowPinLaw" (24 : Nat) "java/util/ArrayList").before a0 Z = true := hw _ (List.mem_of_getElem? (i := 32) rfl)
theorem wd33 {a0 : Array Value} {Z : State} (hw : OW a0 Z) : (Jvm.Cond.instantiable "java/util/ArrayList" (3 : Nat)).before a0 Z = true := hw _ (List.mem_of_getElem? (i := 33) rfl)
theorem wd34 {a0 : Array Value} {Z : State} (hw : OW a0 Z) : (Jvm.Cond.initialized "java/util/ArrayList").before a0 Z = true := hw _ (List.mem_of_getElem? (i := 34) rfl)
theorem wd35 {a0 : Array Value} {Z : State} (hw : OW a0 Z) : (Jvm.Cond.methodLink "com/example/tariff/tariff/SupplyVoltagesBelowPinLaw" (26 : Nat) nm12).before a0 Z = true := hw _ (List.mem_of_getElem? (i := 35) rfl)
theorem wd36 {a0 : Array Value} {Z : State} (hw : OW a0 Z) : (Jvm.Cond.instanceMethod nm12).before a0 Z = true := hw _ (List.mem_of_getElem? (i := 36) rfl)
theorem wd37 {a0 : Array Value} {Z : State} (hw : OW a0 Z) : (Jvm.Cond.code nm12 jdk_38_method_2_code (1 : Nat) (Option.none : Option Jvm.ClassFile.FieldType)).before a0 Z = true := hw _ (List.mem_of_getElem? (i := 37) rfl)
theorem wd38 {a0 : Array Value} {Z : State} (hw : OW a0 Z) : (Jvm.Cond.methodLink "java/util/ArrayList" (1 : Nat) nm4).before a0 Z = true := hw _ (List.mem_of_getElem? (i := 38) rfl)
theorem wd39 {a0 : Array Value} {Z : State} (hw : OW a0 Z) : (Jvm.Cond.instanceMethod nm4).before a0 Z = true := hw _ (List.mem_of_getElem? (i := 39) rfl)
theorem wd42 {a0 : Array Value} {Z : State} (hw : OW a0 Z) : (Jvm.Cond.initialized "java/util/AbstractList").before a0 Z = true := hw _ (List.mem_of_getElem? (i := 42) rfl)
theorem wd43 {a0 : Array Value} {Z : State} (hw : OW a0 Z) : (Jvm.Cond.code nm4 jdk_39_method_1_code (1 : Nat) (Option.none : Option Jvm.ClassFile.FieldType)).before a0 Z = true := hw _ (List.mem_of_getElem? (i := 43) rfl)
theorem wd44 {a0 : Array Value} {Z : State} (hw : OW a0 Z) : (Jvm.Cond.methodLink "java/util/AbstractList" (1 : Nat) nm3).before a0 Z = true := hw _ (List.mem_of_getElem? (i := 44) rfl)
theorem wd45 {a0 : Array Value} {Z : State} (hw : OW a0 Z) : (Jvm.Cond.instanceMethod nm3).before a0 Z = true := hw _ (List.mem_of_getElem? (i := 45) rfl)
theorem wd48 {a0 : Array Value} {Z : State} (hw : OW a0 Z) : (Jvm.Cond.initialized "java/util/AbstractCollection").before a0 Z = true := hw _ (List.mem_of_getElem? (i := 48) rfl)
theorem wd49 {a0 : Array Value} {Z : State} (hw : OW a0 Z) : (Jvm.Cond.code nm3 jdk_22_method_1_code (1 : Nat) (Option.none : Option Jvm.ClassFile.FieldType)).before a0 Z = true := hw _ (List.mem_of_getElem? (i := 49) rfl)
theorem wd50 {a0 : Array Value} {Z : State} (hw : OW a0 Z) : (Jvm.Cond.methodLink "java/util/AbstractCollection" (1 : Nat) nm0).before a0 Z = true := hw _ (List.mem_of_getElem? (i := 50) rfl)
theorem wd51 {a0 : Array Value} {Z : State} (hw : OW a0 Z) : (Jvm.Cond.fieldLink "java/util/AbstractList" (7 : Nat) "java/util/AbstractList" "modCount" "I").before a0 Z = true := hw _ (List.mem_of_getElem? (i := 51) rfl)
theorem wd52 {a0 : Array Value} {Z : State} (hw : OW a0 Z) : (Jvm.Cond.lays "java/util/ArrayList" "java/util/AbstractList" "modCount" "I").before a0 Z = true := hw _ (List.mem_of_getElem? (i := 52) rfl)
theorem wd53 {a0 : Array Value} {Z : State} (hw : OW a0 Z) : (Jvm.Cond.fieldLink "java/util/ArrayList" (39 : Nat) "java/util/ArrayList" "DEFAULTCAPACITY_EMPTY_ELEMENTDATA" "[Ljava/lang/Object;").before a0 Z = true := hw _ (List.mem_of_getElem? (i := 53) rfl)
theorem wd54 {a0 : Array Value} {Z : State} (hw : OW a0 Z) : (Jvm.Cond.fieldLink "java/util/ArrayList" (9 : Nat) "java/util/ArrayList" "elementData" "[Ljava/lang/Object;").before a0 Z = true := hw _ (List.mem_of_getElem? (i := 54) rfl)
theorem wd55 {a0 : Array Value} {Z : State} (hw : OW a0 Z) : (Jvm.Cond.lays "java/util/ArrayList" "java/util/ArrayList" "elementData" "[Ljava/lang/Object;").before a0 Z = true := hw _ (List.mem_of_getElem? (i := 55) rfl)
theorem wd56 {a0 : Array Value} {Z : State} (hw : OW a0 Z) : (Jvm.Cond.methodLink "com/example/tariff/tariff/SupplyVoltagesBelowPinLaw" (27 : Nat) nm20).before a0 Z = true := hw _ (List.mem_of_getElem? (i := 56) rfl)
theorem wd57 {a0 : Array Value} {Z : State} (hw : OW a0 Z) : (Jvm.Cond.declares nm20).before a0 Z = true := hw _ (List.mem_of_getElem? (i := 57) rfl)
theorem wd58 {a0 : Array Value} {Z : State} (hw : OW a0 Z) : (Jvm.Cond.interfaceMethod "java/util/List" "java/util/List" "add" "(Ljava/lang/Object;)Z").before a0 Z = true := hw _ (List.mem_of_getElem? (i := 58) rfl)
theorem wd59 {a0 : Array Value} {Z : State} (hw : OW a0 Z) : (Jvm.Cond.selects "java/util/ArrayList" nm20 nm21).before a0 Z = true := hw _ (List.mem_of_getElem? (i := 59) rfl)
theorem wd60 {a0 : Array Value} {Z : State} (hw : OW a0 Z) : (Jvm.Cond.instanceMethod nm21).before a0 Z = true := hw _ (List.mem_of_getElem? (i := 60) rfl)
theorem wd61 {a0 : Array Value} {Z : State} (hw : OW a0 Z) : (Jvm.Cond.publicMethod nm21).before a0 Z = true := hw _ (List.mem_of_getElem? (i := 61) rfl)
theorem wd62 {a0 : Array Value} {Z : State} (hw : OW a0 Z) : (Jvm.Cond.unhidden "java/util/ArrayList" "add" "(Ljava/lang/Object;)Z").before a0 Z = true := hw _ (List.mem_of_getElem? (i := 62) rfl)
theorem wd63 {a0 : Array Value} {Z : State} (hw : OW a0 Z) : (Jvm.Cond.castable "java/util/ArrayList" "java/util/List").before a0 Z = true := hw _ (List.mem_of_getElem? (i := 63) rfl)
theorem wd64 {a0 : Array Value} {Z : State} (hw : OW a0 Z) : (Jvm.Cond.code nm21 jdk_38_method_25_code (2 : Nat) (Option.some Jvm.ClassFile.FieldType.boolean)).before a0 Z = true := hw _ (List.mem_of_getElem? (i := 64) rfl)
theorem wd65 {a0 : Array Value} {Z : State} (hw : OW a0 Z) : (Jvm.Cond.fieldLink "java/util/ArrayList" (63 : Nat) "java/util/ArrayList" "modCount" "I").before a0 Z = true := hw _ (List.mem_of_getElem? (i := 65) rfl)
theorem wd66 {a0 : Array Value} {Z : State} (hw : OW a0 Z) : (Jvm.Cond.sameField "java/util/ArrayList" "java/util/AbstractList" "modCount" "I").before a0 Z = true := hw _ (List.mem_of_getElem? (i := 66) rfl)
theorem wd67 {a0 : Array Value} {Z : State} (hw : OW a0 Z) : (Jvm.Cond.fieldLink "java/util/ArrayList" (48 : Nat) "java/util/ArrayList" "size" "I").before a0 Z = true := hw _ (List.mem_of_getElem? (i := 67) rfl)
theorem wd68 {a0 : Array Value} {Z : State} (hw : OW a0 Z) : (Jvm.Cond.lays "java/util/ArrayList" "java/util/ArrayList" "size" "I").before a0 Z = true := hw _ (List.mem_of_getElem? (i := 68) rfl)
theorem wd69 {a0 : Array Value} {Z : State} (hw : OW a0 Z) : (Jvm.Cond.methodLink "java/util/ArrayList" (131 : Nat) nm8).before a0 Z = true := hw _ (List.mem_of_getElem? (i := 69) rfl)
theorem wd70 {a0 : Array Value} {Z : State} (hw : OW a0 Z) : (Jvm.Cond.instanceMethod nm8).before a0 Z = true := hw _ (List.mem_of_getElem? (i := 70) rfl)
theorem wd71 {a0 : Array Value} {Z : State} (hw : OW a0 Z) : (Jvm.Cond.privateMethod nm8).before a0 Z = true := hw _ (List.mem_of_getElem? (i := 71) rfl)
theorem wd72 {a0 : Array Value} {Z : State} (hw : OW a0 Z) : (Jvm.Cond.selects "java/util/ArrayList" nm8 nm8).before a0 Z = true := hw _ (List.mem_of_getElem? (i := 72) rfl)
theorem wd73 {a0 : Array Value} {Z : State} (hw : OW a0 Z) : (Jvm.Cond.code nm8 jdk_38_method_24_code (4 : Nat) (Option.none : Option Jvm.ClassFile.FieldType)).before a0 Z = true := hw _ (List.mem_of_getElem? (i := 73) rfl)
theorem wd74 {a0 : Array Value} {Z : State} (hw : OW a0 Z) : (Jvm.Cond.methodLink "java/util/ArrayList" (129 : Nat) nm7).before a0 Z = true := hw _ (List.mem_of_getElem? (i := 74) rfl)
theorem wd75 {a0 : Array Value} {Z : State} (hw : OW a0 Z) : (Jvm.Cond.instanceMethod nm7).before a0 Z = true := hw _ (List.mem_of_getElem? (i := 75) rfl)
theorem wd76 {a0 : Array Value} {Z : State} (hw : OW a0 Z) : (Jvm.Cond.privateMethod nm7).before a0 Z = true := hw _ (List.mem_of_getElem? (i := 76) rfl)
theorem wd77 {a0 : Array Value} {Z : State} (hw : OW a0 Z) : (Jvm.Cond.selects "java/util/ArrayList" nm7 nm7).before a0 Z = true := hw _ (List.mem_of_getElem? (i := 77) rfl)
theorem wd78 {a0 : Array Value} {Z : State} (hw : OW a0 Z) : (Jvm.Cond.code nm7 jdk_38_method_7_code (1 : Nat) (Option.some (Jvm.ClassFile.FieldType.array (Jvm.ClassFile.FieldType.object "java/lang/Object")))).before a0 Z = true := hw _ (List.mem_of_getElem? (i := 78) rfl)
theorem wd79 {a0 : Array Value} {Z : State} (hw : OW a0 Z) : (Jvm.Cond.methodLink "java/util/ArrayList" (69 : Nat) nm6).before a0 Z = true := hw _ (List.mem_of_getElem? (i := 79) rfl)
theorem wd80 {a0 : Array Value} {Z : State} (hw : OW a0 Z) : (Jvm.Cond.instanceMethod nm6).before a0 Z = true := hw _ (List.mem_of_getElem? (i := 80) rfl)
theorem wd81 {a0 : Array Value} {Z : State} (hw : OW a0 Z) : (Jvm.Cond.privateMethod nm6).before a0 Z = true := hw _ (List.mem_of_getElem? (i := 81) rfl)
theorem wd82 {a0 : Array Value} {Z : State} (hw : OW a0 Z) : (Jvm.Cond.selects "java/util/ArrayList" nm6 nm6).before a0 Z = true := hw _ (List.mem_of_getElem? (i := 82) rfl)
theorem wd83 {a0 : Array Value} {Z : State} (hw : OW a0 Z) : (Jvm.Cond.code nm6 jdk_38_method_6_code (4 : Nat) (Option.some (Jvm.ClassFile.FieldType.array (Jvm.ClassFile.FieldType.object "java/lang/Object")))).before a0 Z = true := hw _ (List.mem_of_getElem? (i := 83) rfl)
theorem wd84 {a0 : Array Value} {Z : State} (hw : OW a0 Z) : (Jvm.Cond.methodLink "java/util/ArrayList" (79 : Nat) nm5).before a0 Z = true := hw _ (List.mem_of_getElem? (i := 84) rfl)
theorem wd85 {a0 : Array Value} {Z : State} (hw : OW a0 Z) : (Jvm.Cond.static nm5).before a0 Z = true := hw _ (List.mem_of_getElem? (i := 85) rfl)
theorem wd86 {a0 : Array Value} {Z : State} (hw : OW a0 Z) : (Jvm.Cond.initialized "java/lang/Math").before a0 Z = true := hw _ (List.mem_of_getElem? (i := 86) rfl)
theorem wd87 {a0 : Array Value} {Z : State} (hw : OW a0 Z) : (Jvm.Cond.code nm5 jdk_29_method_65_code (2 : Nat) (Option.some Jvm.ClassFile.FieldType.int)).before a0 Z = true := hw _ (List.mem_of_getElem? (i := 87) rfl)
theorem wd88 {a0 : Array Value} {Z : State} (hw : OW a0 Z) : (Jvm.Cond.classLink "java/util/ArrayList" (7 : Nat) "java/lang/Object").before a0 Z = true := hw _ (List.mem_of_getElem? (i := 88) rfl)
theorem wd89 {a0 : Array Value} {Z : State} (hw : OW a0 Z) : (Jvm.Cond.arrayOver (Jvm.ClassFile.FieldType.object "java/lang/Object")).before a0 Z = true := hw _ (List.mem_of_getElem? (i := 89) rfl)
theorem wd90 {a0 : Array Value} {Z : State} (hw : OW a0 Z) : (Jvm.Cond.castable "java/math/BigInteger" "java/lang/Object").before a0 Z = true := hw _ (List.mem_of_getElem? (i := 90) rfl)
theorem wd91 {a0 : Array Value} {Z : State} (hw : OW a0 Z) : (Jvm.Cond.castable "com/example/tariff/tariff/VoltageClass" "java/lang/Object").before a0 Z = true := hw _ (List.mem_of_getElem? (i := 91) rfl)
theorem wd92 {a0 : Array Value} {Z : State} (hw : OW a0 Z) : (Jvm.Cond.classLink "com/example/tariff/tariff/SupplyVoltagesBelowPinLaw" (33 : Nat) "com/example/tariff/tariff/SupplyVoltages").before a0 Z = true := hw _ (List.mem_of_getElem? (i := 92) rfl)
theorem wd93 {a0 : Array Value} {Z : State} (hw : OW a0 Z) : (Jvm.Cond.instantiable "com/example/tariff/tariff/SupplyVoltages" (1 : Nat)).before a0 Z = true := hw _ (List.mem_of_getElem? (i := 93) rfl)
theorem wd94 {a0 : Array Value} {Z : State} (hw : OW a0 Z) : (Jvm.Cond.initialized "com/example/tariff/tariff/SupplyVoltages").before a0 Z = true := hw _ (List.mem_of_getElem? (i := 94) rfl)
theorem wd95 {a0 : Array Value} {Z : State} (hw : OW a0 Z) : (Jvm.Cond.methodLink "com/example/tariff/tariff/SupplyVoltagesBelowPinLaw" (35 : Nat) nm23).before a0 Z = true := hw _ (List.mem_of_getElem? (i := 95) rfl)
theorem wd96 {a0 : Array Value} {Z : State} (hw : OW a0 Z) : (Jvm.Cond.instanceMethod nm23).before a0 Z = true := hw _ (List.mem_of_getElem? (i := 96) rfl)
theorem wd97 {a0 : Array Value} {Z : State} (hw : OW a0 Z) : (Jvm.Cond.code nm23 prog_37_method_1_code (5 : Nat) (Option.none : Option Jvm.ClassFile.FieldType)).before a0 Z = true := hw _ (List.mem_of_getElem? (i := 97) rfl)
theorem wd98 {a0 : Array Value} {Z : State} (hw : OW a0 Z) : (Jvm.Cond.methodLink "com/example/tariff/tariff/SupplyVoltages" (1 : Nat) nm0).before a0 Z = true := hw _ (List.mem_of_getElem? (i := 98) rfl)
theorem wd99 {a0 : Array Value} {Z : State} (hw : OW a0 Z) : (Jvm.Cond.classLink "com/example/tariff/tariff/SupplyVoltages" (7 : Nat) "java/util/ArrayList").before a0 Z = true := hw _ (List.mem_of_getElem? (i := 99) rfl)
theorem wd100 {a0 : Array Value} {Z : State} (hw : OW a0 Z) : (Jvm.Cond.methodLink "com/example/tariff/tariff/SupplyVoltages" (9 : Nat) nm12).before a0 Z = true := hw _ (List.mem_of_getElem? (i := 100) rfl)
theorem wd101 {a0 : Array Value} {Z : State} (hw : OW a0 Z) : (Jvm.Cond.fieldLink "com/example/tariff/tariff/SupplyVoltages" (10 : Nat) "com/example/tariff/tariff/SupplyVoltages" "voltages" "Ljava/util/List;").before a0 Z = true := hw _ (List.mem_of_getElem? (i := 101) rfl)
theorem wd102 {a0 : Array Value} {Z : State} (hw : OW a0 Z) : (Jvm.Cond.laysFinal "com/example/tariff/tariff/SupplyVoltages" "com/example/tariff/tariff/SupplyVoltages" "voltages" "Ljava/util/List;").before a0 Z = true := hw _ (List.mem_of_getElem? (i := 102) rfl)
theorem wd103 {a0 : Array Value} {Z : State} (hw : OW a0 Z) : (Jvm.Cond.methodLink "com/example/tariff/tariff/SupplyVoltages" (16 : Nat) nm13).before a0 Z = true := hw _ (List.mem_of_getElem? (i := 103) rfl)
theorem wd104 {a0 : Array Value} {Z : State} (hw : OW a0 Z) : (Jvm.Cond.declares nm13).before a0 Z = true := hw _ (List.mem_of_getElem? (i := 104) rfl)
theorem wd105 {a0 : Array Value} {Z : State} (hw : OW a0 Z) : (Jvm.Cond.interfaceMethod "java/util/List" "java/util/List" "isEmpty" "()Z").before a0 Z = true := hw _ (List.mem_of_getElem? (i := 105) rfl)
theorem wd106 {a0 : Array Value} {Z : State} (hw : OW a0 Z) : (Jvm.Cond.selects "java/util/ArrayList" nm13 nm14).before a0 Z = true := hw _ (List.mem_of_getElem? (i := 106) rfl)
theorem wd107 {a0 : Array Value} {Z : State} (hw : OW a0 Z) : (Jvm.Cond.instanceMethod nm14).before a0 Z = true := hw _ (List.mem_of_getElem? (i := 107) rfl)
theorem wd108 {a0 : Array Value} {Z : State} (hw : OW a0 Z) : (Jvm.Cond.publicMethod nm14).before a0 Z = true := hw _ (List.mem_of_getElem? (i := 108) rfl)
theorem wd109 {a0 : Array Value} {Z : State} (hw : OW a0 Z) : (Jvm.Cond.unhidden "java/util/ArrayList" "isEmpty" "()Z").before a0 Z = true := hw _ (List.mem_of_getElem? (i := 109) rfl)
theorem wd110 {a0 : Array Value} {Z : State} (hw : OW a0 Z) : (Jvm.Cond.code nm14 jdk_38_method_9_code (1 : Nat) (Option.some Jvm.ClassFile.FieldType.boolean)).before a0 Z = true := hw _ (List.mem_of_getElem? (i := 110) rfl)
theorem wd111 {a0 : Array Value} {Z : State} (hw : OW a0 Z) : (Jvm.Cond.methodLink "com/example/tariff/tariff/SupplyVoltages" (22 : Nat) nm15).before a0 Z = true := hw _ (List.mem_of_getElem? (i := 111) rfl)
theorem wd112 {a0 : Array Value} {Z : State} (hw : OW a0 Z) : (Jvm.Cond.declares nm15).before a0 Z = true := hw _ (List.mem_of_getElem? (i := 112) rfl)
theorem wd113 {a0 : Array Value} {Z : State} (hw : OW a0 Z) : (Jvm.Cond.interfaceMethod "java/util/List" "java/util/List" "size" "()I").before a0 Z = true := hw _ (List.mem_of_getElem? (i := 113) rfl)
theorem wd114 {a0 : Array Value} {Z : State} (hw : OW a0 Z) : (Jvm.Cond.selects "java/util/ArrayList" nm15 nm16).before a0 Z = true := hw _ (List.mem_of_getElem? (i := 114) rfl)
theorem wd115 {a0 : Array Value} {Z : State} (hw : OW a0 Z) : (Jvm.Cond.instanceMethod nm16).before a0 Z = true := hw _ (List.mem_of_getElem? (i := 115) rfl)
theorem wd116 {a0 : Array Value} {Z : State} (hw : OW a0 Z) : (Jvm.Cond.publicMethod nm16).before a0 Z = true := hw _ (List.mem_of_getElem? (i := 116) rfl)
theorem wd117 {a0 : Array Value} {Z : State} (hw : OW a0 Z) : (Jvm.Cond.unhidden "java/util/ArrayList" "size" "()I").before a0 Z = true := hw _ (List.mem_of_getElem? (i := 117) rfl)
theorem wd118 {a0 : Array Value} {Z : State} (hw : OW a0 Z) : (Jvm.Cond.code nm16 jdk_38_method_8_code (1 : Nat) (Option.some Jvm.ClassFile.FieldType.int)).before a0 Z = true := hw _ (List.mem_of_getElem? (i := 118) rfl)
theorem wd119 {a0 : Array Value} {Z : State} (hw : OW a0 Z) : (Jvm.Cond.classLink "com/example/tariff/tariff/SupplyVoltages" (35 : Nat) "com/example/tariff/tariff/SupplyVoltages$Voltage").before a0 Z = true := hw _ (List.mem_of_getElem? (i := 119) rfl)
theorem wd120 {a0 : Array Value} {Z : State} (hw : OW a0 Z) : (Jvm.Cond.instantiable "com/example/tariff/tariff/SupplyVoltages$Voltage" (4 : Nat)).before a0 Z = true := hw _ (List.mem_of_getElem? (i := 120) rfl)
theorem wd121 {a0 : Array Value} {Z : State} (hw : OW a0 Z) : (Jvm.Cond.initialized "com/example/tariff/tariff/SupplyVoltages$Voltage").before a0 Z = true := hw _ (List.mem_of_getElem? (i := 121) rfl)
theorem wd122 {a0 : Array Value} {Z : State} (hw : OW a0 Z) : (Jvm.Cond.methodLink "com/example/tariff/tariff/SupplyVoltages" (37 : Nat) nm17).before a0 Z = true := hw _ (List.mem_of_getElem? (i := 122) rfl)
theorem wd123 {a0 : Array Value} {Z : State} (hw : OW a0 Z) : (Jvm.Cond.declares nm17).before a0 Z = true := hw _ (List.mem_of_getElem? (i := 123) rfl)
theorem wd124 {a0 : Array Value} {Z : State} (hw : OW a0 Z) : (Jvm.Cond.interfaceMethod "java/util/List" "java/util/List" "get" "(I)Ljava/lang/Object;").before a0 Z = true := hw _ (List.mem_of_getElem? (i := 124) rfl)
theorem wd125 {a0 : Array Value} {Z : State} (hw : OW a0 Z) : (Jvm.Cond.selects "java/util/ArrayList" nm17 nm18).before a0 Z = true := hw _ (List.mem_of_getElem? (i := 125) rfl)
theorem wd126 {a0 : Array Value} {Z : State} (hw : OW a0 Z) : (Jvm.Cond.instanceMethod nm18).before a0 Z = true := hw _ (List.mem_of_getElem? (i := 126) rfl)
theorem wd127 {a0 : Array Value} {Z : State} (hw : OW a0 Z) : (Jvm.Cond.publicMethod nm18).before a0 Z = true := hw _ (List.mem_of_getElem? (i := 127) rfl)
theorem wd128 {a0 : Array Value} {Z : State} (hw : OW a0 Z) : (Jvm.Cond.unhidden "java/util/ArrayList" "get" "(I)Ljava/lang/Object;").before a0 Z = true := hw _ (List.mem_of_getElem? (i := 128) rfl)
theorem wd129 {a0 : Array Value} {Z : State} (hw : OW a0 Z) : (Jvm.Cond.code nm18 jdk_38_method_20_code (2 : Nat) (Option.some (Jvm.ClassFile.FieldType.object "java/lang/Object"))).before a0 Z = true := hw _ (List.mem_of_getElem? (i := 129) rfl)
theorem wd130 {a0 : Array Value} {Z : State} (hw : OW a0 Z) : (Jvm.Cond.methodLink "java/util/ArrayList" (118 : Nat) nm10).before a0 Z = true := hw _ (List.mem_of_getElem? (i := 130) rfl)
theorem wd131 {a0 : Array Value} {Z : State} (hw : OW a0 Z) : (Jvm.Cond.static nm10).before a0 Z = true := hw _ (List.mem_of_getElem? (i := 131) rfl)
theorem wd132 {a0 : Array Value} {Z : State} (hw : OW a0 Z) : (Jvm.Cond.initialized "java/util/Objects").before a0 Z = true := hw _ (List.mem_of_getElem? (i := 132) rfl)
theorem wd133 {a0 : Array Value} {Z : State} (hw : OW a0 Z) : (Jvm.Cond.code nm10 jdk_31_method_17_code (2 : Nat) (Option.some Jvm.ClassFile.FieldType.int)).before a0 Z = true := hw _ (List.mem_of_getElem? (i := 133) rfl)
theorem wd134 {a0 : Array Value} {Z : State} (hw : OW a0 Z) : (Jvm.Cond.methodLink "java/util/Objects" (105 : Nat) nm9).before a0 Z = true := hw _ (List.mem_of_getElem? (i := 134) rfl)
theorem wd135 {a0 : Array Value} {Z : State} (hw : OW a0 Z) : (Jvm.Cond.static nm9).before a0 Z = true := hw _ (List.mem_of_getElem? (i := 135) rfl)
theorem wd136 {a0 : Array Value} {Z : State} (hw : OW a0 Z) : (Jvm.Cond.initialized "jdk/internal/util/Preconditions").before a0 Z = true := hw _ (List.mem_of_getElem? (i := 136) rfl)
theorem wd137 {a0 : Array Value} {Z : State} (hw : OW a0 Z) : (Jvm.Cond.code nm9 jdk_41_method_11_code (3 : Nat) (Option.some Jvm.ClassFile.FieldType.int)).before a0 Z = true := hw _ (List.mem_of_getElem? (i := 137) rfl)
theorem wd138 {a0 : Array Value} {Z : State} (hw : OW a0 Z) : (Jvm.Cond.methodLink "java/util/ArrayList" (123 : Nat) nm11).before a0 Z = true := hw _ (List.mem_of_getElem? (i := 138) rfl)
theorem wd139 {a0 : Array Value} {Z : State} (hw : OW a0 Z) : (Jvm.Cond.declares nm11).before a0 Z = true := hw _ (List.mem_of_getElem? (i := 139) rfl)
theorem wd140 {a0 : Array Value} {Z : State} (hw : OW a0 Z) : (Jvm.Cond.instanceMethod nm11).before a0 Z = true := hw _ (List.mem_of_getElem? (i := 140) rfl)
theorem wd141 {a0 : Array Value} {Z : State} (hw : OW a0 Z) : (Jvm.Cond.selects "java/util/ArrayList" nm11 nm11).before a0 Z = true := hw _ (List.mem_of_getElem? (i := 141) rfl)
theorem wd142 {a0 : Array Value} {Z : State} (hw : OW a0 Z) : (Jvm.Cond.code nm11 jdk_38_method_18_code (2 : Nat) (Option.some (Jvm.ClassFile.FieldType.object "java/lang/Object"))).before a0 Z = true := hw _ (List.mem_of_getElem? (i := 142) rfl)
theorem wd143 {a0 : Array Value} {Z : State} (hw : OW a0 Z) : (Jvm.Cond.classLink "com/example/tariff/tariff/SupplyVoltages" (41 : Nat) "java/math/BigInteger").before a0 Z = true := hw _ (List.mem_of_getElem? (i := 143) rfl)
theorem wd144 {a0 : Array Value} {Z : State} (hw : OW a0 Z) : (Jvm.Cond.classLink "com/example/tariff/tariff/SupplyVoltages" (43 : Nat) "com/example/tariff/tariff/VoltageClass").before a0 Z = true := hw _ (List.mem_of_getElem? (i := 144) rfl)
theorem wd146 {a0 : Array Value} {Z : State} (hw : OW a0 Z) : (Jvm.Cond.methodRef "com/example/tariff/tariff/SupplyVoltages" (45 : Nat) nm19).before a0 Z = true := hw _ (List.mem_of_getElem? (i := 146) rfl)
theorem wd147 {a0 : Array Value} {Z : State} (hw : OW a0 Z) : (Jvm.Cond.instanceMethod nm19).before a0 Z = true := hw _ (List.mem_of_getElem? (i := 147) rfl)
theorem wd148 {a0 : Array Value} {Z : State} (hw : OW a0 Z) : (Jvm.Cond.code nm19 prog_38_method_1_code (5 : Nat) (Option.none : Option Jvm.ClassFile.FieldType)).before a0 Z = true := hw _ (List.mem_of_getElem? (i := 148) rfl)
theorem wd149 {a0 : Array Value} {Z : State} (hw : OW a0 Z) : (Jvm.Cond.methodLink "com/example/tariff/tariff/SupplyVoltages$Voltage" (1 : Nat) nm0).before a0 Z = true := hw _ (List.mem_of_getElem? (i := 149) rfl)
theorem wd150 {a0 : Array Value} {Z : State} (hw : OW a0 Z) : (Jvm.Cond.fieldLink "com/example/tariff/tariff/SupplyVoltages$Voltage" (7 : Nat) "com/example/tariff/tariff/SupplyVoltages$Voltage" "volts" "Ljava/math/BigInteger;").before a0 Z = true := hw _ (List.mem_of_getElem? (i := 150) rfl)
theorem wd151 {a0 : Array Value} {Z : State} (hw : OW a0 Z) : (Jvm.Cond.laysFinal "com/example/tariff/tariff/SupplyVoltages$Voltage" "com/example/tariff/tariff/SupplyVoltages$Voltage" "volts" "Ljava/math/BigInteger;").before a0 Z = true := hw _ (List.mem_of_getElem? (i := 151) rfl)
theorem wd152 {a0 : Array Value} {Z : State} (hw : OW a0 Z) : (Jvm.Cond.fieldLink "com/example/tariff/tariff/SupplyVoltages$Voltage" (13 : Nat) "com/example/tariff/tariff/SupplyVoltages$Voltage" "voltageClass" "Lcom/example/tariff/tariff/VoltageClass;").before a0 Z = true := hw _ (List.mem_of_getElem? (i := 152) rfl)
theorem wd153 {a0 : Array Value} {Z : State} (hw : OW a0 Z) : (Jvm.Cond.laysFinal "com/example/tariff/tariff/SupplyVoltages$Voltage" "com/example/tariff/tariff/SupplyVoltages$Voltage" "voltageClass" "Lcom/example/tariff/tariff/VoltageClass;").before a0 Z = true := hw _ (List.mem_of_getElem? (i := 153) rfl)
theorem wd154 {a0 : Array Value} {Z : State} (hw : OW a0 Z) : (Jvm.Cond.fieldLink "com/example/tariff/tariff/SupplyVoltages$Voltage" (17 : Nat) "com/example/tariff/tariff/SupplyVoltages$Voltage" "from" "Ljava/math/BigInteger;").before a0 Z = true := hw _ (List.mem_of_getElem? (i := 154) rfl)
theorem wd155 {a0 : Array Value} {Z : State} (hw : OW a0 Z) : (Jvm.Cond.laysFinal "com/example/tariff/tariff/SupplyVoltages$Voltage" "com/example/tariff/tariff/SupplyVoltages$Voltage" "from" "Ljava/math/BigInteger;").before a0 Z = true := hw _ (List.mem_of_getElem? (i := 155) rfl)
theorem wd156 {a0 : Array Value} {Z : State} (hw : OW a0 Z) : (Jvm.Cond.fieldLink "com/example/tariff/tariff/SupplyVoltages$Voltage" (20 : Nat) "com/example/tariff/tariff/SupplyVoltages$Voltage" "below" "Ljava/math/BigInteger;").before a0 Z = true := hw _ (List.mem_of_getElem? (i := 156) rfl)
theorem wd157 {a0 : Array Value} {Z : State} (hw : OW a0 Z) : (Jvm.Cond.laysFinal "com/example/tariff/tariff/SupplyVoltages$Voltage" "com/example/tariff/tariff/SupplyVoltages$Voltage" "below" "Ljava/math/BigInteger;").before a0 Z = true := hw _ (List.mem_of_getElem? (i := 157) rfl)
theorem wd158 {a0 : Array Value} {Z : State} (hw : OW a0 Z) : (Jvm.Cond.methodLink "com/example/tariff/tariff/SupplyVoltages" (48 : Nat) nm20).before a0 Z = true := hw _ (List.mem_of_getElem? (i := 158) rfl)
theorem wd159 {a0 : Array Value} {Z : State} (hw : OW a0 Z) : (Jvm.Cond.castable "com/example/tariff/tariff/SupplyVoltages$Voltage" "java/lang/Object").before a0 Z = true := hw _ (List.mem_of_getElem? (i := 159) rfl)
theorem wd160 {a0 : Array Value} {Z : State} (hw : OW a0 Z) : (Jvm.Cond.methodLink "com/example/tariff/tariff/SupplyVoltagesBelowPinLaw" (38 : Nat) nm24).before a0 Z = true := hw _ (List.mem_of_getElem? (i := 160) rfl)
theorem wd161 {a0 : Array Value} {Z : State} (hw : OW a0 Z) : (Jvm.Cond.declares nm24).before a0 Z = true := hw _ (List.mem_of_getElem? (i := 161) rfl)
theorem wd162 {a0 : Array Value} {Z : State} (hw : OW a0 Z) : (Jvm.Cond.instanceMethod nm24).before a0 Z = true := hw _ (List.mem_of_getElem? (i := 162) rfl)
theorem wd163 {a0 : Array Value} {Z : State} (hw : OW a0 Z) : (Jvm.Cond.selects "com/example/tariff/tariff/SupplyVoltages" nm24 nm24).before a0 Z = true := hw _ (List.mem_of_getElem? (i := 163) rfl)
theorem wd164 {a0 : Array Value} {Z : State} (hw : OW a0 Z) : (Jvm.Cond.code nm24 prog_37_method_3_code (1 : Nat) (Option.some (Jvm.ClassFile.FieldType.object "java/math/BigInteger"))).before a0 Z = true := hw _ (List.mem_of_getElem? (i := 164) rfl)
theorem wd166 {a0 : Array Value} {Z : State} (hw : OW a0 Z) : (Jvm.Cond.fieldRef "com/example/tariff/tariff/SupplyVoltages" (56 : Nat) "com/example/tariff/tariff/SupplyVoltages$Voltage" "below" "Ljava/math/BigInteger;").before a0 Z = true := hw _ (List.mem_of_getElem? (i := 166) rfl)
theorem wd167 {a0 : Array Value} {Z : State} (hw : OW a0 Z) : (Jvm.Cond.fieldLink "com/example/tariff/tariff/SupplyVoltagesBelowPinLaw" (15 : Nat) "com/example/tariff/tariff/VoltageClass" "HIGH" "Lcom/example/tariff/tariff/VoltageClass;").before a0 Z = true := hw _ (List.mem_of_getElem? (i := 167) rfl)
theorem wd169 {a0 : Array Value} {Z : State} (hw : OW a0 Z) : (Jvm.Cond.methodLink "com/example/tariff/tariff/SupplyVoltagesBelowPinLaw" (42 : Nat) nm25).before a0 Z = true := hw _ (List.mem_of_getElem? (i := 169) rfl)
theorem wd170 {a0 : Array Value} {Z : State} (hw : OW a0 Z) : (Jvm.Cond.declares nm25).before a0 Z = true := hw _ (List.mem_of_getElem? (i := 170) rfl)
theorem wd171 {a0 : Array Value} {Z : State} (hw : OW a0 Z) : (Jvm.Cond.instanceMethod nm25).before a0 Z = true := hw _ (List.mem_of_getElem? (i := 171) rfl)
theorem wd172 {a0 : Array Value} {Z : State} (hw : OW a0 Z) : (Jvm.Cond.selects "java/math/BigInteger" nm25 nm25).before a0 Z = true := hw _ (List.mem_of_getElem? (i := 172) rfl)
theorem wd173 {a0 : Array Value} {Z : State} (hw : OW a0 Z) : (Jvm.Cond.code nm25 jdk_2097_method_124_code (7 : Nat) (Option.some Jvm.ClassFile.FieldType.boolean)).before a0 Z = true := hw _ (List.mem_of_getElem? (i := 173) rfl)
theorem wd174 {a0 : Array Value} {Z : State} (hw : OW a0 Z) : (Jvm.Cond.fieldLink "java/math/BigInteger" (353 : Nat) "java/math/BigInteger" "negConst" "[Ljava/math/BigInteger;").before a0 Z = true := hw _ (List.mem_of_getElem? (i := 174) rfl)
theorem wd175 {a0 : Array Value} {Z : State} (hw : OW a0 Z) : (Jvm.Cond.fieldLink "java/math/BigInteger" (22 : Nat) "java/math/BigInteger" "ZERO" "Ljava/math/BigInteger;").before a0 Z = true := hw _ (List.mem_of_getElem? (i := 175) rfl)
theorem own_irem (a r : Int32) : (a - (a / r) * r) = a % r := irem_eq_mod a r
theorem own_rem {q r : Int32} (k : Int) (hk : r.toInt = k) (h0 : 0 < k) {v : Int32} (hv : v = ((q &&& (2147483647 : Int32)) - ((q &&& (2147483647 : Int32)) / r) * r)) : 0 ≤ v.toInt ∧ v.toInt < k := by
  have h1 := c_mask q 2147483647 31 (by decide) (by decide)
  have e : v = (q &&& (2147483647 : Int32)) % r := by
    rw [hv]; exact own_irem _ _
  have h2 := c_irem (q &&& (2147483647 : Int32)) r k hk
  rw [← e] at h2
  have h3 : 0 ≤ (q &&& (2147483647 : Int32)).toInt := by omega
  rw [h2.1 h3]
  exact ⟨Int.emod_nonneg _ (by omega), Int.emod_lt_of_pos _ h0⟩
theorem own_lit {v : Int32} (n : Int32) (h : v.toInt = n.toInt) : v = n := Int32.toInt_inj.mp h
def own_cst (Z : State) (o : Addr) (cl : Cell) : Prop := Arr Z Z.heap o cl (.object "java/math/BigInteger") ∧ cl.slots.size = 17 ∧ ∀ j : Int32, (0 : Int32) < j → ¬ (16 : Int32) < j → ∃ b, cl.slots[j.toNatClampNeg]? = some (.ref b) ∧ Exa Z Z.heap b "java/math/BigInteger"
theorem own_cst1 {t : Term} {args : Array Value} {Z : State} {a : Addr} {cl : Cell} {ty : FieldType} {j : Int32} {K : String} (ev : t.eval args Z none [] Z = some (.ref a)) (A : Arr Z Z.heap a cl ty) (h : (Cond.exactly (Term.elem t (.int j)) K).value args Z none Z [] = some true) : ∃ b, cl.slots[j.toNatClampNeg]? = some (.ref b) ∧ Exa Z Z.heap b K := by
  obtain ⟨b, eb⟩ := exa_v h
  exact ⟨b, own_elem ev A eb, Exa.start eb h⟩
def own_p16 (j : Int32) : Bool := j == (1 : Int32) || j == (2 : Int32) || j == (3 : Int32) || j == (4 : Int32) || j == (5 : Int32) || j == (6 : Int32) || j == (7 : Int32) || j == (8 : Int32) || j == (9 : Int32) || j == (10 : Int32) || j == (11 : Int32) || j == (12 : Int32) || j == (13 : Int32) || j == (14 : Int32) || j == (15 : Int32) || j == (16 : Int32)
theorem own_j16 {j : Int32} (h1 : (0 : Int32) < j) (h2 : ¬ (16 : Int32) < j) : j = (1 : Int32) ∨ j = (2 : Int32) ∨ j = (3 : Int32) ∨ j = (4 : Int32) ∨ j = (5 : Int32) ∨ j = (6 : Int32) ∨ j = (7 : Int32) ∨ j = (8 : Int32) ∨ j = (9 : Int32) ∨ j = (10 : Int32) ∨ j = (11 : Int32) ∨ j = (12 : Int32) ∨ j = (13 : Int32) ∨ j = (14 : Int32) ∨ j = (15 : Int32) ∨ j = (16 : Int32) := by
  rw [Int32.lt_iff_toInt_lt] at h1 h2
  have e0 : (0 : Int32).toInt = 0 := rfl
  have e1 : (16 : Int32).toInt = 16 := rfl
  have e : j = Int32.ofNat j.toInt.toNat := by
    apply Int32.toInt_inj.mp
    rw [Int32.toInt_ofNat_of_lt (by omega)]
    omega
  have h : ∀ k : Fin 17, 0 < k.val → own_p16 (Int32.ofNat k.val) = true := by decide +kernel
  have h3 := h ⟨j.toInt.toNat, by omega⟩ (by show 0 < j.toInt.toNat; omega)
  rw [e]
  unfold own_p16 at h3
  simp only [Bool.or_eq_true, beq_iff_eq, or_assoc] at h3
  exact h3
theorem own_cstOf {t : Term} {args : Array Value} {Z : State} {a : Addr} {cl : Cell} (ev : t.eval args Z none [] Z = some (.ref a)) (A : Arr Z Z.heap a cl (.object "java/math/BigInteger")) (hl : (Term.length t).eval args Z none [] Z = some (.int (17 : Int32)))
    (h1 : (Cond.exactly (Term.elem t (.int (1 : Int32))) "java/math/BigInteger").value args Z none Z [] = some true) (h2 : (Cond.exactly (Term.elem t (.int (2 : Int32))) "java/math/BigInteger").value args Z none Z [] = some true) (h3 : (Cond.exactly (Term.elem t (.int (3 : Int32))) "java/math/BigInteger").value args Z none Z [] = some true) (h4 : (Cond.exactly (Term.elem t (.int (4 : Int32))) "java/math/BigInteger").value args Z none Z [] = some true) (h5 : (Cond.exactly (Term.elem t (.int (5 : Int32))) "java/math/BigInteger").value args Z none Z [] = some true) (h6 : (Cond.exactly (Term.elem t (.int (6 : Int32))) "java/math/BigInteger").value args Z none Z [] = some true) (h7 : (Cond.exactly (Term.elem t (.int (7 : Int32))) "java/math/BigInteger").value args Z none Z [] = some true) (h8 : (Cond.exactly (Term.elem t (.int (8 : Int32))) "java/math/BigInteger").value args Z none Z [] = some true) (h9 : (Cond.exactly (Term.elem t (.int (9 : Int32))) "java/math/BigInteger").value args Z none Z [] = some true) (h10 : (Cond.exactly (Term.elem t (.int (10 : Int32))) "java/math/BigInteger").value args Z none Z [] = some true) (h11 : (Cond.exactly (Term.elem t (.int (11 : Int32))) "java/math/BigInteger").value args Z none Z [] = some true) (h12 : (Cond.exactly (Term.elem t (.int (12 : Int32))) "java/math/BigInteger").value args Z none Z [] = some true) (h13 : (Cond.exactly (Term.elem t (.int (13 : Int32))) "java/math/BigInteger").value args Z none Z [] = some true) (h14 : (Cond.exactly (Term.elem t (.int (14 : Int32))) "java/math/BigInteger").value args Z none Z [] = some true) (h15 : (Cond.exactly (Term.elem t (.int (15 : Int32))) "java/math/BigInteger").value args Z none Z [] = some true) (h16 : (Cond.exactly (Term.elem t (.int (16 : Int32))) "java/math/BigInteger").value args Z none Z [] = some true) : own_cst Z a cl := by
  have hA := IntBox.arrayAt_of A.1 A.2.1 A.2.2
  have hlt : cl.slots.size < 2 ^ 31 := by
    by_cases hq : cl.slots.size < 2 ^ 31
    · exact hq
    · simp [Term.eval, ev, hA, hq] at hl
  have e := len_f (t := t) (args := args) (first := Z) (o := none) (idx := []) ev hA hlt
  have e2 : cl.slots.size.toInt32 = (17 : Int32) := Value.int.inj (Option.some.inj (e.symm.trans hl))
  refine ⟨A, ?_, fun j g1 g2 => ?_⟩
  · have e3 : (cl.slots.size.toInt32).toInt = 17 := by rw [e2]; rfl
    have e4 : (cl.slots.size.toInt32).toInt = cl.slots.size := Int32.toInt_ofNat_of_lt hlt
    omega
  · rcases own_j16 g1 g2 with rfl | rfl | rfl | rfl | rfl | rfl | rfl | rfl | rfl | rfl | rfl | rfl | rfl | rfl | rfl | rfl
    · exact own_cst1 ev A h1
    · exact own_cst1 ev A h2
    · exact own_cst1 ev A h3
    · exact own_cst1 ev A h4
    · exact own_cst1 ev A h5
    · exact own_cst1 ev A h6
    · exact own_cst1 ev A h7
    · exact own_cst1 ev A h8
    · exact own_cst1 ev A h9
    · exact own_cst1 ev A h10
    · exact own_cst1 ev A h11
    · exact own_cst1 ev A h12
    · exact own_cst1 ev A h13
    · exact own_cst1 ev A h14
    · exact own_cst1 ev A h15
    · exact own_cst1 ev A h16
theorem own_in17 {cl : Cell} {j : Int32} (hs : cl.slots.size = 17) (h1 : (0 : Int32) < j) (h2 : ¬ (16 : Int32) < j) : ¬ (j < 0 ∨ cl.slots.size ≤ j.toNatClampNeg) := by
  rw [Int32.lt_iff_toInt_lt] at h1 h2
  have e0 : (0 : Int32).toInt = 0 := rfl
  have e1 : (16 : Int32).toInt = 16 := rfl
  simp only [Int32.lt_iff_toInt_lt, Int32.toNatClampNeg, hs]
  omega
theorem own_jp {z : Int64} (h1 : (0 : Int64) < z) (h2 : ¬ (16 : Int64) < z) : (0 : Int32) < z.toInt32 ∧ ¬ (16 : Int32) < z.toInt32 := by
  rw [Int64.lt_iff_toInt_lt] at h1 h2
  rw [Int32.lt_iff_toInt_lt, Int32.lt_iff_toInt_lt]
  have e0 : (0 : Int32).toInt = 0 := rfl
  have e1 : (16 : Int32).toInt = 16 := rfl
  have e2 : (0 : Int64).toInt = 0 := rfl
  have e3 : (16 : Int64).toInt = 16 := rfl
  have h := c_l2i z
  have r := rng32 z.toInt32
  omega
theorem own_jn {z : Int64} (h1 : z < (0 : Int64)) (h2 : ¬ z < (-16 : Int64)) : (0 : Int32) < (-z).toInt32 ∧ ¬ (16 : Int32) < (-z).toInt32 := by
  rw [Int64.lt_iff_toInt_lt] at h1 h2
  rw [Int32.lt_iff_toInt_lt, Int32.lt_iff_toInt_lt]
  have e0 : (0 : Int32).toInt = 0 := rfl
  have e1 : (16 : Int32).toInt = 16 := rfl
  have e2 : (0 : Int64).toInt = 0 := rfl
  have e3 : (-16 : Int64).toInt = -16 := rfl
  have h := c_l2i (-z)
  have h' := c_lneg z
  have r := rng32 (-z).toInt32
  have r' := rng64 (-z)
  omega
theorem own_n3 {q v : Int32} (hv : v = ((1 : Int32) + ((q &&& (2147483647 : Int32)) - ((q &&& (2147483647 : Int32)) / (3 : Int32)) * (3 : Int32)))) : v = (1 : Int32) ∨ v = (2 : Int32) ∨ v = (3 : Int32) := by
  have h := own_rem (q := q) (r := 3) 3 rfl (by decide) (v := ((q &&& (2147483647 : Int32)) - ((q &&& (2147483647 : Int32)) / (3 : Int32)) * (3 : Int32))) rfl
  generalize ((q &&& (2147483647 : Int32)) - ((q &&& (2147483647 : Int32)) / (3 : Int32)) * (3 : Int32)) = z at h hv
  have h3 : z.toInt = 0 ∨ z.toInt = 1 ∨ z.toInt = 2 := by omega
  rcases h3 with h3 | h3 | h3
  · have := own_lit (0 : Int32) (v := z) h3; subst this; exact Or.inl hv
  · have := own_lit (1 : Int32) (v := z) h3; subst this; exact Or.inr (Or.inl hv)
  · have := own_lit (2 : Int32) (v := z) h3; subst this; exact Or.inr (Or.inr hv)

def Amb (Z : State) (o_EXTRA_HIGH : Addr) (o_HIGH : Addr) (o_ZERO : Addr) (o_DEF : Addr) (kDEF : ClassId) (o_pos : Addr) (cl_pos : Cell) (o_neg : Addr) (cl_neg : Cell) : Prop := Sta Z Z.heap "com/example/tariff/tariff/VoltageClass" "EXTRA_HIGH" "Lcom/example/tariff/tariff/VoltageClass;" (.ref o_EXTRA_HIGH) ∧ ex0 Z Z.heap o_EXTRA_HIGH ∧ Sta Z Z.heap "com/example/tariff/tariff/VoltageClass" "HIGH" "Lcom/example/tariff/tariff/VoltageClass;" (.ref o_HIGH) ∧ ex0 Z Z.heap o_HIGH ∧ Sta Z Z.heap "java/math/BigInteger" "ZERO" "Ljava/math/BigInteger;" (.ref o_ZERO) ∧ ex1 Z Z.heap o_ZERO ∧ Sta Z Z.heap "java/util/ArrayList" "DEFAULTCAPACITY_EMPTY_ELEMENTDATA" "[Ljava/lang/Object;" (.ref o_DEF) ∧ Arv Z Z.heap o_DEF kDEF (.object "java/lang/Object") (0 : Int32) [] .null ∧ Sta Z Z.heap "java/math/BigInteger" "posConst" "[Ljava/math/BigInteger;" (.ref o_pos) ∧ Sta Z Z.heap "java/math/BigInteger" "negConst" "[Ljava/math/BigInteger;" (.ref o_neg) ∧ (own_cst Z o_pos cl_pos) ∧ (own_cst Z o_neg cl_neg) ∧ True
theorem Amb.a0 {Z : State} {o_EXTRA_HIGH : Addr} {o_HIGH : Addr} {o_ZERO : Addr} {o_DEF : Addr} {kDEF : ClassId} {o_pos : Addr} {cl_pos : Cell} {o_neg : Addr} {cl_neg : Cell} (A : Amb Z o_EXTRA_HIGH o_HIGH o_ZERO o_DEF kDEF o_pos cl_pos o_neg cl_neg) : Sta Z Z.heap "com/example/tariff/tariff/VoltageClass" "EXTRA_HIGH" "Lcom/example/tariff/tariff/VoltageClass;" (.ref o_EXTRA_HIGH) := A.1
theorem Amb.a1 {Z : State} {o_EXTRA_HIGH : Addr} {o_HIGH : Addr} {o_ZERO : Addr} {o_DEF : Addr} {kDEF : ClassId} {o_pos : Addr} {cl_pos : Cell} {o_neg : Addr} {cl_neg : Cell} (A : Amb Z o_EXTRA_HIGH o_HIGH o_ZERO o_DEF kDEF o_pos cl_pos o_neg cl_neg) : ex0 Z Z.heap o_EXTRA_HIGH := A.2.1
theorem Amb.a2 {Z : State} {o_EXTRA_HIGH : Addr} {o_HIGH : Addr} {o_ZERO : Addr} {o_DEF : Addr} {kDEF : ClassId} {o_pos : Addr} {cl_pos : Cell} {o_neg : Addr} {cl_neg : Cell} (A : Amb Z o_EXTRA_HIGH o_HIGH o_ZERO o_DEF kDEF o_pos cl_pos o_neg cl_neg) : Sta Z Z.heap "com/example/tariff/tariff/VoltageClass" "HIGH" "Lcom/example/tariff/tariff/VoltageClass;" (.ref o_HIGH) := A.2.2.1
theorem Amb.a3 {Z : State} {o_EXTRA_HIGH : Addr} {o_HIGH : Addr} {o_ZERO : Addr} {o_DEF : Addr} {kDEF : ClassId} {o_pos : Addr} {cl_pos : Cell} {o_neg : Addr} {cl_neg : Cell} (A : Amb Z o_EXTRA_HIGH o_HIGH o_ZERO o_DEF kDEF o_pos cl_pos o_neg cl_neg) : ex0 Z Z.heap o_HIGH := A.2.2.2.1
theorem Amb.a4 {Z : State} {o_EXTRA_HIGH : Addr} {o_HIGH : Addr} {o_ZERO : Addr} {o_DEF : Addr} {kDEF : ClassId} {o_pos : Addr} {cl_pos : Cell} {o_neg : Addr} {cl_neg : Cell} (A : Amb Z o_EXTRA_HIGH o_HIGH o_ZERO o_DEF kDEF o_pos cl_pos o_neg cl_neg) : Sta Z Z.heap "java/math/BigInteger" "ZERO" "Ljava/math/BigInteger;" (.ref o_ZERO) := A.2.2.2.2.1
theorem Amb.a5 {Z : State} {o_EXTRA_HIGH : Addr} {o_HIGH : Addr} {o_ZERO : Addr} {o_DEF : Addr} {kDEF : ClassId} {o_pos : Addr} {cl_pos : Cell} {o_neg : Addr} {cl_neg : Cell} (A : Amb Z o_EXTRA_HIGH o_HIGH o_ZERO o_DEF kDEF o_pos cl_pos o_neg cl_neg) : ex1 Z Z.heap o_ZERO := A.2.2.2.2.2.1
theorem Amb.a6 {Z : State} {o_EXTRA_HIGH : Addr} {o_HIGH : Addr} {o_ZERO : Addr} {o_DEF : Addr} {kDEF : ClassId} {o_pos : Addr} {cl_pos : Cell} {o_neg : Addr} {cl_neg : Cell} (A : Amb Z o_EXTRA_HIGH o_HIGH o_ZERO o_DEF kDEF o_pos cl_pos o_neg cl_neg) : Sta Z Z.heap "java/util/ArrayList" "DEFAULTCAPACITY_EMPTY_ELEMENTDATA" "[Ljava/lang/Object;" (.ref o_DEF) := A.2.2.2.2.2.2.1
theorem Amb.a7 {Z : State} {o_EXTRA_HIGH : Addr} {o_HIGH : Addr} {o_ZERO : Addr} {o_DEF : Addr} {kDEF : ClassId} {o_pos : Addr} {cl_pos : Cell} {o_neg : Addr} {cl_neg : Cell} (A : Amb Z o_EXTRA_HIGH o_HIGH o_ZERO o_DEF kDEF o_pos cl_pos o_neg cl_neg) : Arv Z Z.heap o_DEF kDEF (.object "java/lang/Object") (0 : Int32) [] .null := A.2.2.2.2.2.2.2.1
theorem Amb.a8 {Z : State} {o_EXTRA_HIGH : Addr} {o_HIGH : Addr} {o_ZERO : Addr} {o_DEF : Addr} {kDEF : ClassId} {o_pos : Addr} {cl_pos : Cell} {o_neg : Addr} {cl_neg : Cell} (A : Amb Z o_EXTRA_HIGH o_HIGH o_ZERO o_DEF kDEF o_pos cl_pos o_neg cl_neg) : Sta Z Z.heap "java/math/BigInteger" "posConst" "[Ljava/math/BigInteger;" (.ref o_pos) := A.2.2.2.2.2.2.2.2.1
theorem Amb.a9 {Z : State} {o_EXTRA_HIGH : Addr} {o_HIGH : Addr} {o_ZERO : Addr} {o_DEF : Addr} {kDEF : ClassId} {o_pos : Addr} {cl_pos : Cell} {o_neg : Addr} {cl_neg : Cell} (A : Amb Z o_EXTRA_HIGH o_HIGH o_ZERO o_DEF kDEF o_pos cl_pos o_neg cl_neg) : Sta Z Z.heap "java/math/BigInteger" "negConst" "[Ljava/math/BigInteger;" (.ref o_neg) := A.2.2.2.2.2.2.2.2.2.1
theorem Amb.cpos {Z : State} {o_EXTRA_HIGH : Addr} {o_HIGH : Addr} {o_ZERO : Addr} {o_DEF : Addr} {kDEF : ClassId} {o_pos : Addr} {cl_pos : Cell} {o_neg : Addr} {cl_neg : Cell} (A : Amb Z o_EXTRA_HIGH o_HIGH o_ZERO o_DEF kDEF o_pos cl_pos o_neg cl_neg) : own_cst Z o_pos cl_pos := A.2.2.2.2.2.2.2.2.2.2.1
theorem Amb.cneg {Z : State} {o_EXTRA_HIGH : Addr} {o_HIGH : Addr} {o_ZERO : Addr} {o_DEF : Addr} {kDEF : ClassId} {o_pos : Addr} {cl_pos : Cell} {o_neg : Addr} {cl_neg : Cell} (A : Amb Z o_EXTRA_HIGH o_HIGH o_ZERO o_DEF kDEF o_pos cl_pos o_neg cl_neg) : own_cst Z o_neg cl_neg := A.2.2.2.2.2.2.2.2.2.2.2.1

abbrev my3 : MethodName := (⟨"java/lang/Number", "<init>", "()V"⟩ : MethodName)
theorem d3_1 : decode jdk_18_method_1_code 1 = .ok (.invokespecial 1, 3) := by decide +kernel
theorem d3_4 : decode jdk_18_method_1_code 4 = .ok (.return_, 1) := by decide +kernel
theorem e3_0_1 : own_dec jdk_18_method_1_code 0 [(.aload_n 0, 1)] = true := by decide +kernel
theorem pn_0 : plainName "java/lang/Number" = true := by first | (simp [plainName, overriddenIn]; done) | decide +kernel
def Q3 (Z : State) (a1 : Addr) (h0 : Heap) (n0 : Nat) (v : Option Value) (h : Heap) (L : List Loc) : Prop := v = none ∧ Fr n0 L ∧ h = h0
set_option maxRecDepth 65536 in
set_option maxHeartbeats 40000000 in
theorem rm3 (l : Launch) (Z : State) (a0 : Array Value) (hw : OW a0 Z) (ws : List Jvm.Cond) (a1 : Addr) (h0 : Heap) (n0 : Nat) (Z0 : n0 ≤ h0.size)  :
    own_Met l my3 jdk_18_method_1_code 1 none ws (own_rm 1 0 0 12) #[(.ref a1)] Z h0 (Q3 Z a1 h0 n0) 0 0 := by
  refine own_body (plainFor_of_name pn_0) (fun m => by first | (simp [entryFrame, mkF, argsToLocals, Value.category]; done) | rfl) (Ls := #[.val (.ref a1)]) fun p e s m below meth c s₁ X0 hx hby hml hZ e0 hown hnm hlk hrt => ?_
  have N0 := Fr.nil n0
  refine own_ru 1 [(.ref a1)] X0 hx hby e3_0_1 rfl rfl ?_
  refine own_iO X0 hx hZ hown (wd21 hw) (wd22 hw) (wd23 hw) e0 4 0 (by rw [hml]; rfl) rfl (hb hby d3_1) rfl (by decide) rfl (by decide) fun T1 X1 e1 => ?_
  have hq2 : Q3 Z a1 h0 n0 none h0 _ := ⟨rfl, N0, rfl⟩
  exact own_retV X1 hx hlk hrt (hb hby d3_4) e1 hq2 (by decide) (by decide)
abbrev my2 : MethodName := (⟨"java/math/BigInteger", "<init>", "(J)V"⟩ : MethodName)
theorem d2_1 : decode jdk_2097_method_30_code 1 = .ok (.invokespecial 3, 3) := by decide +kernel
theorem d2_5 : decode jdk_2097_method_30_code 5 = .ok (.lconst 0, 1) := by decide +kernel
theorem d2_6 : decode jdk_2097_method_30_code 6 = .ok (.lcmp, 1) := by decide +kernel
theorem d2_7 : decode jdk_2097_method_30_code 7 = .ok (.ifCond .ge 14, 3) := by decide +kernel
theorem d2_15 : decode jdk_2097_method_30_code 15 = .ok (.putfield 32, 3) := by decide +kernel
theorem d2_18 : decode jdk_2097_method_30_code 18 = .ok (.goto 8, 3) := by decide +kernel
theorem d2_23 : decode jdk_2097_method_30_code 23 = .ok (.putfield 32, 3) := by decide +kernel
theorem d2_29 : decode jdk_2097_method_30_code 29 = .ok (.lushr, 1) := by decide +kernel
theorem d2_33 : decode jdk_2097_method_30_code 33 = .ok (.ifCond .ne 21, 3) := by decide +kernel
theorem d2_38 : decode jdk_2097_method_30_code 38 = .ok (.newarray .int, 2) := by decide +kernel
theorem d2_40 : decode jdk_2097_method_30_code 40 = .ok (.putfield 28, 3) := by decide +kernel
theorem d2_44 : decode jdk_2097_method_30_code 44 = .ok (.getfield 28, 3) := by decide +kernel
theorem d2_50 : decode jdk_2097_method_30_code 50 = .ok (.iastore, 1) := by decide +kernel
theorem d2_51 : decode jdk_2097_method_30_code 51 = .ok (.goto 25, 3) := by decide +kernel
theorem d2_56 : decode jdk_2097_method_30_code 56 = .ok (.newarray .int, 2) := by decide +kernel
theorem d2_58 : decode jdk_2097_method_30_code 58 = .ok (.putfield 28, 3) := by decide +kernel
theorem d2_62 : decode jdk_2097_method_30_code 62 = .ok (.getfield 28, 3) := by decide +kernel
theorem d2_67 : decode jdk_2097_method_30_code 67 = .ok (.iastore, 1) := by decide +kernel
theorem d2_69 : decode jdk_2097_method_30_code 69 = .ok (.getfield 28, 3) := by decide +kernel
theorem d2_75 : decode jdk_2097_method_30_code 75 = .ok (.iastore, 1) := by decide +kernel
theorem d2_76 : decode jdk_2097_method_30_code 76 = .ok (.return_, 1) := by decide +kernel
theorem e2_0_1 : own_dec jdk_2097_method_30_code 0 [(.aload_n 0, 1)] = true := by decide +kernel
theorem e2_4_1 : own_dec jdk_2097_method_30_code 4 [(.lload_n 1, 1)] = true := by decide +kernel
theorem e2_10_2 : own_dec jdk_2097_method_30_code 10 [(.lload_n 1, 1), (.lneg, 1)] = true := by decide +kernel
theorem e2_12_3 : own_dec jdk_2097_method_30_code 12 [(.lstore_n 1, 1), (.aload_n 0, 1), (.iconst (-1), 1)] = true := by decide +kernel
theorem e2_26_2 : own_dec jdk_2097_method_30_code 26 [(.lload_n 1, 1), (.bipush 32, 2)] = true := by decide +kernel
theorem e2_30_1 : own_dec jdk_2097_method_30_code 30 [(.l2i, 1)] = true := by decide +kernel
theorem e2_31_2 : own_dec jdk_2097_method_30_code 31 [(.istore_n 3, 1), (.iload_n 3, 1)] = true := by decide +kernel
theorem e2_36_2 : own_dec jdk_2097_method_30_code 36 [(.aload_n 0, 1), (.iconst 1, 1)] = true := by decide +kernel
theorem e2_43_1 : own_dec jdk_2097_method_30_code 43 [(.aload_n 0, 1)] = true := by decide +kernel
theorem e2_47_3 : own_dec jdk_2097_method_30_code 47 [(.iconst 0, 1), (.lload_n 1, 1), (.l2i, 1)] = true := by decide +kernel
theorem e2_54_2 : own_dec jdk_2097_method_30_code 54 [(.aload_n 0, 1), (.iconst 2, 1)] = true := by decide +kernel
theorem e2_61_1 : own_dec jdk_2097_method_30_code 61 [(.aload_n 0, 1)] = true := by decide +kernel
theorem e2_65_2 : own_dec jdk_2097_method_30_code 65 [(.iconst 0, 1), (.iload_n 3, 1)] = true := by decide +kernel
theorem e2_68_1 : own_dec jdk_2097_method_30_code 68 [(.aload_n 0, 1)] = true := by decide +kernel
theorem e2_72_3 : own_dec jdk_2097_method_30_code 72 [(.iconst 1, 1), (.lload_n 1, 1), (.l2i, 1)] = true := by decide +kernel
theorem e2_21_2 : own_dec jdk_2097_method_30_code 21 [(.aload_n 0, 1), (.iconst 1, 1)] = true := by decide +kernel
theorem pn_1 : plainName "java/math/BigInteger" = true := by first | (simp [plainName, overriddenIn]; done) | decide +kernel
theorem pd_0 : parseMethodDescriptor "()V" = some ⟨[], none⟩ := by decide +kernel
def Q2 (Z : State) (a1 : Addr) (z1 : Int64) (h0 : Heap) (n0 : Nat) (v : Option Value) (h : Heap) (L : List Loc) : Prop := v = none ∧ Fr n0 L ∧ Keep h0 h [a1] ∧ ex1 Z h a1
set_option maxRecDepth 65536 in
set_option maxHeartbeats 40000000 in
theorem rm2 (l : Launch) (Z : State) (a0 : Array Value) (hw : OW a0 Z) (ws : List Jvm.Cond) (a1 : Addr) (z1 : Int64) (h0 : Heap) (n0 : Nat) (Z0 : n0 ≤ h0.size) (P0 : ex1 Z h0 a1) (P1 : fl2 Z h0 a1 (.int (0 : Int32))) (P2 : fl3 Z h0 a1 .null) (g_a1 : n0 ≤ a1) :
    own_Met l my2 jdk_2097_method_30_code 4 none ws (own_rm 2 1 2 24) #[(.ref a1), (.long z1)] Z h0 (Q2 Z a1 z1 h0 n0) 1 2 := by
  refine own_body (plainFor_of_name pn_1) (fun m => by first | (simp [entryFrame, mkF, argsToLocals, Value.category]; done) | rfl) (Ls := #[.val (.ref a1), .val (.long z1), .second, .unset]) fun p e s m below meth c s₁ X0 hx hby hml hZ e0 hown hnm hlk hrt => ?_
  have N0 := Fr.nil n0
  have lt_P0 : @LT.lt Nat _ a1 (Array.size h0) := P0.lt
  refine own_ru 1 [(.ref a1)] X0 hx hby e2_0_1 rfl rfl ?_
  refine own_cN X0 hx hZ hown rfl (wd15 hw) (wd16 hw) (by decide) (wd20 hw) (wd19 hw) (rm3 l Z a0 hw [] a1 h0 n0 (by omega) ) e0  [] [] 4 0 (hb hby d2_1) rfl (by rw [hml]; rfl) rfl rfl (lenOf pd_0 rfl) rfl (by decide) fun v3 T3 Lc3 X3 hQ3 => ?_
  obtain ⟨rfl, N3q, e3⟩ := hQ3
  have N3 := Fr.app N0 N3q
  refine own_ru 5 [(.long z1)] X3 hx hby e2_4_1 rfl rfl ?_
  refine own_st 6 [(.long (0 : Int64)), (.long z1)] (fun t k => XS.lconst X3.here hx rfl (hb hby d2_5) k) ?_
  refine own_st 7 [(.int (lcmpW z1 (0 : Int64)))] (fun t k => XS.lcmp X3.here hx rfl (hb hby d2_6) rfl k) ?_
  by_cases hc7 : z1 < (0 : Int64)
  · refine own_iN 10 X3 hx (hb hby d2_7) rfl ((if0 _ _).trans (tlt ((lw_lt _ _).mpr hc7)).2.1) rfl ?_
    refine own_ru 12 [(.long (-z1))] X3 hx hby e2_10_2 rfl rfl ?_
    obtain ⟨v12, hv12⟩ : ∃ z : Int64, z = (-z1) := ⟨_, rfl⟩
    rw [← hv12]
    refine own_rl 15 #[.val (.ref a1), .val (.long v12), .second, .unset] [(.int (-1 : Int32)), (.ref a1)] X3 hx hby e2_12_3 rfl rfl ?_
    refine own_pF X3 hx hZ hown (host := "") (Or.inl (wd24 hw)) Via.refl e3 P1 P0 (Or.inr ⟨(wd25 hw), rfl, hnm⟩) (wd10 hw) (ty := .int) (by decide) rfl rfl 18 rfl (hb hby d2_15) rfl fun T4 h4 X4 e4 W4 => ?_
    have F4 := Fld.same W4 P1
    have z4 := W4.size
    have KK4 : Keep h0 h4 [a1] := (Keep.refl h0 [a1]).wr W4 (Or.inl (by simp))
    have N4 := Fr.snoc X4 N3 (by omega)
    refine own_go 26 X4 hx (hb hby d2_18) (by decide) (by decide) ?_
    refine own_ru 29 [(.int (32 : Int32)), (.long v12)] X4 hx hby e2_26_2 rfl rfl ?_
    refine own_st 30 [(.long ((v12.toUInt64 >>> ((32 : Int32) &&& 0x3f).toInt64.toUInt64).toInt64))] (fun t k => XS.lushr X4.here hx rfl (hb hby d2_29) rfl k) ?_
    refine own_ru 31 [(.int (((v12.toUInt64 >>> ((32 : Int32) &&& 0x3f).toInt64.toUInt64).toInt64).toInt32))] X4 hx hby e2_30_1 rfl rfl ?_
    obtain ⟨v31, hv31⟩ : ∃ z : Int32, z = (((v12.toUInt64 >>> ((32 : Int32) &&& 0x3f).toInt64.toUInt64).toInt64).toInt32) := ⟨_, rfl⟩
    rw [← hv31]
    refine own_rl 33 #[.val (.ref a1), .val (.long v12), .second, .val (.int v31)] [(.int v31)] X4 hx hby e2_31_2 rfl rfl ?_
    by_cases hc33 : v31 = (0 : Int32)
    · refine own_iN 36 X4 hx (hb hby d2_33) rfl ((if0 _ _).trans (teq hc33).2) rfl ?_
      refine own_ru 38 [(.int (1 : Int32)), (.ref a1)] X4 hx hby e2_36_2 rfl rfl ?_
      refine own_nP (aty := .int) X4 hx hZ (wd26 hw) e4 40 (hb hby d2_38) rfl rfl (by decide) (cap := 1) (by decide) (by decide) (by decide) (by decide) (ad := "[I") rfl fun T5 h5 k5 b5 g5 X5 e5 E5 A5 B5 => ?_
      have ll5 : @LT.lt Nat _ b5 (Array.size h5) := A5.lt
      have KK5 : Keep h0 h5 [a1] := KK4.ext E5
      have z5 := E5.1
      have V5 : Arv Z h5 b5 k5 .int (1 : Int32) [(.int (0 : Int32))] (.int (0 : Int32)) := (Arv.new A5 (by decide)).pad (pad_rep [] (.int (0 : Int32)) 1)
      have f6 := (Exa.ext E5 (Exa.wr W4 P0))
      have f7 := (Fld.ext E5 (Fld.other W4 P2 (Or.inr (slot_ne (Or.inr (wd28 hw)) (Or.inr (wd25 hw)) (by decide) (t := (.array .int)) (t' := .int) (by decide) (by decide)))))
      refine own_pF X5 hx hZ hown (host := "") (Or.inl (wd27 hw)) Via.refl e5 f7 f6 (Or.inr ⟨(wd28 hw), rfl, hnm⟩) (wd10 hw) (ty := (.array .int)) (by decide) rfl rfl 43 rfl (hb hby d2_40) rfl fun T8 h8 X8 e8 W8 => ?_
      have F8 := Fld.same W8 f7
      have z8 := W8.size
      have KK8 : Keep h0 h8 [a1] := KK5.wr W8 (Or.inl (by simp))
      have N8 := Fr.snoc X8 N4 (by omega)
      refine own_ru 44 [(.ref a1)] X8 hx hby e2_43_1 rfl rfl ?_
      refine own_gF X8 hx hZ hown (host := "") (Or.inl (wd27 hw)) Via.refl e8 F8 47 rfl (hb hby d2_44) rfl fun T9 X9 e9 => ?_
      refine own_ru 50 [(.int (v12.toInt32)), (.int (0 : Int32)), (.ref b5)] X9 hx hby e2_47_3 rfl rfl ?_
      have f10 := (V5.other W8 (own_ne (by omega)))
      obtain ⟨cl11, Ar11, q11, S11, N11z, Hs11, G11⟩ := id f10
      have hin11 : ¬ ((0 : Int32) < 0 ∨ cl11.slots.size ≤ ((0 : Int32)).toNatClampNeg) := inb_of S11 ⟨by decide, by decide⟩
      obtain ⟨T12, h12, X12, e12, W12, st12⟩ := stI X9 hx hZ e9 Ar11 (j := (0 : Int32)) hin11 (g := (mkF m 50 #[.val (.ref a1), .val (.long v12), .second, .val (.int v31)] [(.int (v12.toInt32)), (.int (0 : Int32)), (.ref b5)])) rfl rfl (hb hby d2_50)
      have V12 : Arv Z h12 b5 k5 .int (1 : Int32) [(.int (v12.toInt32))] (.int (0 : Int32)) := Arv.set Ar11 q11 S11 N11z Hs11 G11 rfl W12 0 rfl (Nat.le_of_ble_eq_true rfl)
      have z12 := W12.size
      have KK12 : Keep h0 h12 [a1] := KK8.wr W12 (Or.inr (by omega))
      have N12 := Fr.snoc X12 N8 (by omega)
      refine own_sT 51 [] st12 ?_
      refine own_go 76 X12 hx (hb hby d2_51) (by decide) (by decide) ?_
      have f14 := (Exa.wr W12 (Exa.wr W8 f6))
      have hq13 : Q2 Z a1 z1 h0 n0 none h12 _ := ⟨rfl, N12, KK12, f14⟩
      exact own_retV X12 hx hlk hrt (hb hby d2_76) e12 hq13 (by decide) (by decide)
    · refine own_iY 54 X4 hx (hb hby d2_33) rfl ((if0 _ _).trans (feq hc33).2) (by decide) (by decide) ?_
      refine own_ru 56 [(.int (2 : Int32)), (.ref a1)] X4 hx hby e2_54_2 rfl rfl ?_
      refine own_nP (aty := .int) X4 hx hZ (wd26 hw) e4 58 (hb hby d2_56) rfl rfl (by decide) (cap := 2) (by decide) (by decide) (by decide) (by decide) (ad := "[I") rfl fun T15 h15 k15 b15 g15 X15 e15 E15 A15 B15 => ?_
      have ll15 : @LT.lt Nat _ b15 (Array.size h15) := A15.lt
      have KK15 : Keep h0 h15 [a1] := KK4.ext E15
      have z15 := E15.1
      have V15 : Arv Z h15 b15 k15 .int (2 : Int32) [(.int (0 : Int32)), (.int (0 : Int32))] (.int (0 : Int32)) := (Arv.new A15 (by decide)).pad (pad_rep [] (.int (0 : Int32)) 2)
      have f16 := (Exa.ext E15 (Exa.wr W4 P0))
      have f17 := (Fld.ext E15 (Fld.other W4 P2 (Or.inr (slot_ne (Or.inr (wd28 hw)) (Or.inr (wd25 hw)) (by decide) (t := (.array .int)) (t' := .int) (by decide) (by decide)))))
      refine own_pF X15 hx hZ hown (host := "") (Or.inl (wd27 hw)) Via.refl e15 f17 f16 (Or.inr ⟨(wd28 hw), rfl, hnm⟩) (wd10 hw) (ty := (.array .int)) (by decide) rfl rfl 61 rfl (hb hby d2_58) rfl fun T18 h18 X18 e18 W18 => ?_
      have F18 := Fld.same W18 f17
      have z18 := W18.size
      have KK18 : Keep h0 h18 [a1] := KK15.wr W18 (Or.inl (by simp))
      have N18 := Fr.snoc X18 N4 (by omega)
      refine own_ru 62 [(.ref a1)] X18 hx hby e2_61_1 rfl rfl ?_
      refine own_gF X18 hx hZ hown (host := "") (Or.inl (wd27 hw)) Via.refl e18 F18 65 rfl (hb hby d2_62) rfl fun T19 X19 e19 => ?_
      refine own_ru 67 [(.int v31), (.int (0 : Int32)), (.ref b15)] X19 hx hby e2_65_2 rfl rfl ?_
      have f20 := (V15.other W18 (own_ne (by omega)))
      obtain ⟨cl21, Ar21, q21, S21, N21z, Hs21, G21⟩ := id f20
      have hin21 : ¬ ((0 : Int32) < 0 ∨ cl21.slots.size ≤ ((0 : Int32)).toNatClampNeg) := inb_of S21 ⟨by decide, by decide⟩
      obtain ⟨T22, h22, X22, e22, W22, st22⟩ := stI X19 hx hZ e19 Ar21 (j := (0 : Int32)) hin21 (g := (mkF m 67 #[.val (.ref a1), .val (.long v12), .second, .val (.int v31)] [(.int v31), (.int (0 : Int32)), (.ref b15)])) rfl rfl (hb hby d2_67)
      have V22 : Arv Z h22 b15 k15 .int (2 : Int32) [(.int v31), (.int (0 : Int32))] (.int (0 : Int32)) := Arv.set Ar21 q21 S21 N21z Hs21 G21 rfl W22 0 rfl (Nat.le_of_ble_eq_true rfl)
      have z22 := W22.size
      have KK22 : Keep h0 h22 [a1] := KK18.wr W22 (Or.inr (by omega))
      have N22 := Fr.snoc X22 N18 (by omega)
      refine own_sT 68 [] st22 ?_
      refine own_ru 69 [(.ref a1)] X22 hx hby e2_68_1 rfl rfl ?_
      have f23 := (Fld.other W22 F18 (Or.inl (own_ne (by omega))))
      refine own_gF X22 hx hZ hown (host := "") (Or.inl (wd27 hw)) Via.refl e22 f23 72 rfl (hb hby d2_69) rfl fun T24 X24 e24 => ?_
      refine own_ru 75 [(.int (v12.toInt32)), (.int (1 : Int32)), (.ref b15)] X24 hx hby e2_72_3 rfl rfl ?_
      obtain ⟨cl25, Ar25, q25, S25, N25z, Hs25, G25⟩ := id V22
      have hin25 : ¬ ((1 : Int32) < 0 ∨ cl25.slots.size ≤ ((1 : Int32)).toNatClampNeg) := inb_of S25 ⟨by decide, by decide⟩
      obtain ⟨T26, h26, X26, e26, W26, st26⟩ := stI X24 hx hZ e24 Ar25 (j := (1 : Int32)) hin25 (g := (mkF m 75 #[.val (.ref a1), .val (.long v12), .second, .val (.int v31)] [(.int (v12.toInt32)), (.int (1 : Int32)), (.ref b15)])) rfl rfl (hb hby d2_75)
      have V26 : Arv Z h26 b15 k15 .int (2 : Int32) [(.int v31), (.int (v12.toInt32))] (.int (0 : Int32)) := Arv.set Ar25 q25 S25 N25z Hs25 G25 rfl W26 1 rfl (Nat.le_of_ble_eq_true rfl)
      have z26 := W26.size
      have KK26 : Keep h0 h26 [a1] := KK22.wr W26 (Or.inr (by omega))
      have N26 := Fr.snoc X26 N22 (by omega)
      refine own_sT 76 [] st26 ?_
      have f28 := (Exa.wr W26 (Exa.wr W22 (Exa.wr W18 f16)))
      have hq27 : Q2 Z a1 z1 h0 n0 none h26 _ := ⟨rfl, N26, KK26, f28⟩
      exact own_retV X26 hx hlk hrt (hb hby d2_76) e26 hq27 (by decide) (by decide)
  · refine own_iY 21 X3 hx (hb hby d2_7) rfl ((if0 _ _).trans (flt (fun q => hc7 ((lw_lt _ _).mp q))).2.1) (by decide) (by decide) ?_
    refine own_ru 23 [(.int (1 : Int32)), (.ref a1)] X3 hx hby e2_21_2 rfl rfl ?_
    refine own_pF X3 hx hZ hown (host := "") (Or.inl (wd24 hw)) Via.refl e3 P1 P0 (Or.inr ⟨(wd25 hw), rfl, hnm⟩) (wd10 hw) (ty := .int) (by decide) rfl rfl 26 rfl (hb hby d2_23) rfl fun T29 h29 X29 e29 W29 => ?_
    have F29 := Fld.same W29 P1
    have z29 := W29.size
    have KK29 : Keep h0 h29 [a1] := (Keep.refl h0 [a1]).wr W29 (Or.inl (by simp))
    have N29 := Fr.snoc X29 N3 (by omega)
    refine own_ru 29 [(.int (32 : Int32)), (.long z1)] X29 hx hby e2_26_2 rfl rfl ?_
    refine own_st 30 [(.long ((z1.toUInt64 >>> ((32 : Int32) &&& 0x3f).toInt64.toUInt64).toInt64))] (fun t k => XS.lushr X29.here hx rfl (hb hby d2_29) rfl k) ?_
    refine own_ru 31 [(.int (((z1.toUInt64 >>> ((32 : Int32) &&& 0x3f).toInt64.toUInt64).toInt64).toInt32))] X29 hx hby e2_30_1 rfl rfl ?_
    obtain ⟨v31, hv31⟩ : ∃ z : Int32, z = (((z1.toUInt64 >>> ((32 : Int32) &&& 0x3f).toInt64.toUInt64).toInt64).toInt32) := ⟨_, rfl⟩
    rw [← hv31]
    refine own_rl 33 #[.val (.ref a1), .val (.long z1), .second, .val (.int v31)] [(.int v31)] X29 hx hby e2_31_2 rfl rfl ?_
    by_cases hc33 : v31 = (0 : Int32)
    · refine own_iN 36 X29 hx (hb hby d2_33) rfl ((if0 _ _).trans (teq hc33).2) rfl ?_
      refine own_ru 38 [(.int (1 : Int32)), (.ref a1)] X29 hx hby e2_36_2 rfl rfl ?_
      refine own_nP (aty := .int) X29 hx hZ (wd26 hw) e29 40 (hb hby d2_38) rfl rfl (by decide) (cap := 1) (by decide) (by decide) (by decide) (by decide) (ad := "[I") rfl fun T30 h30 k30 b30 g30 X30 e30 E30 A30 B30 => ?_
      have ll30 : @LT.lt Nat _ b30 (Array.size h30) := A30.lt
      have KK30 : Keep h0 h30 [a1] := KK29.ext E30
      have z30 := E30.1
      have V30 : Arv Z h30 b30 k30 .int (1 : Int32) [(.int (0 : Int32))] (.int (0 : Int32)) := (Arv.new A30 (by decide)).pad (pad_rep [] (.int (0 : Int32)) 1)
      have f31 := (Exa.ext E30 (Exa.wr W29 P0))
      have f32 := (Fld.ext E30 (Fld.other W29 P2 (Or.inr (slot_ne (Or.inr (wd28 hw)) (Or.inr (wd25 hw)) (by decide) (t := (.array .int)) (t' := .int) (by decide) (by decide)))))
      refine own_pF X30 hx hZ hown (host := "") (Or.inl (wd27 hw)) Via.refl e30 f32 f31 (Or.inr ⟨(wd28 hw), rfl, hnm⟩) (wd10 hw) (ty := (.array .int)) (by decide) rfl rfl 43 rfl (hb hby d2_40) rfl fun T33 h33 X33 e33 W33 => ?_
      have F33 := Fld.same W33 f32
      have z33 := W33.size
      have KK33 : Keep h0 h33 [a1] := KK30.wr W33 (Or.inl (by simp))
      have N33 := Fr.snoc X33 N29 (by omega)
      refine own_ru 44 [(.ref a1)] X33 hx hby e2_43_1 rfl rfl ?_
      refine own_gF X33 hx hZ hown (host := "") (Or.inl (wd27 hw)) Via.refl e33 F33 47 rfl (hb hby d2_44) rfl fun T34 X34 e34 => ?_
      refine own_ru 50 [(.int (z1.toInt32)), (.int (0 : Int32)), (.ref b30)] X34 hx hby e2_47_3 rfl rfl ?_
      have f35 := (V30.other W33 (own_ne (by omega)))
      obtain ⟨cl36, Ar36, q36, S36, N36z, Hs36, G36⟩ := id f35
      have hin36 : ¬ ((0 : Int32) < 0 ∨ cl36.slots.size ≤ ((0 : Int32)).toNatClampNeg) := inb_of S36 ⟨by decide, by decide⟩
      obtain ⟨T37, h37, X37, e37, W37, st37⟩ := stI X34 hx hZ e34 Ar36 (j := (0 : Int32)) hin36 (g := (mkF m 50 #[.val (.ref a1), .val (.long z1), .second, .val (.int v31)] [(.int (z1.toInt32)), (.int (0 : Int32)), (.ref b30)])) rfl rfl (hb hby d2_50)
      have V37 : Arv Z h37 b30 k30 .int (1 : Int32) [(.int (z1.toInt32))] (.int (0 : Int32)) := Arv.set Ar36 q36 S36 N36z Hs36 G36 rfl W37 0 rfl (Nat.le_of_ble_eq_true rfl)
      have z37 := W37.size
      have KK37 : Keep h0 h37 [a1] := KK33.wr W37 (Or.inr (by omega))
      have N37 := Fr.snoc X37 N33 (by omega)
      refine own_sT 51 [] st37 ?_
      refine own_go 76 X37 hx (hb hby d2_51) (by decide) (by decide) ?_
      have f39 := (Exa.wr W37 (Exa.wr W33 f31))
      have hq38 : Q2 Z a1 z1 h0 n0 none h37 _ := ⟨rfl, N37, KK37, f39⟩
      exact own_retV X37 hx hlk hrt (hb hby d2_76) e37 hq38 (by decide) (by decide)
    · refine own_iY 54 X29 hx (hb hby d2_33) rfl ((if0 _ _).trans (feq hc33).2) (by decide) (by decide) ?_
      refine own_ru 56 [(.int (2 : Int32)), (.ref a1)] X29 hx hby e2_54_2 rfl rfl ?_
      refine own_nP (aty := .int) X29 hx hZ (wd26 hw) e29 58 (hb hby d2_56) rfl rfl (by decide) (cap := 2) (by decide) (by decide) (by decide) (by decide) (ad := "[I") rfl fun T40 h40 k40 b40 g40 X40 e40 E40 A40 B40 => ?_
      have ll40 : @LT.lt Nat _ b40 (Array.size h40) := A40.lt
      have KK40 : Keep h0 h40 [a1] := KK29.ext E40
      have z40 := E40.1
      have V40 : Arv Z h40 b40 k40 .int (2 : Int32) [(.int (0 : Int32)), (.int (0 : Int32))] (.int (0 : Int32)) := (Arv.new A40 (by decide)).pad (pad_rep [] (.int (0 : Int32)) 2)
      have f41 := (Exa.ext E40 (Exa.wr W29 P0))
      have f42 := (Fld.ext E40 (Fld.other W29 P2 (Or.inr (slot_ne (Or.inr (wd28 hw)) (Or.inr (wd25 hw)) (by decide) (t := (.array .int)) (t' := .int) (by decide) (by decide)))))
      refine own_pF X40 hx hZ hown (host := "") (Or.inl (wd27 hw)) Via.refl e40 f42 f41 (Or.inr ⟨(wd28 hw), rfl, hnm⟩) (wd10 hw) (ty := (.array .int)) (by decide) rfl rfl 61 rfl (hb hby d2_58) rfl fun T43 h43 X43 e43 W43 => ?_
      have F43 := Fld.same W43 f42
      have z43 := W43.size
      have KK43 : Keep h0 h43 [a1] := KK40.wr W43 (Or.inl (by simp))
      have N43 := Fr.snoc X43 N29 (by omega)
      refine own_ru 62 [(.ref a1)] X43 hx hby e2_61_1 rfl rfl ?_
      refine own_gF X43 hx hZ hown (host := "") (Or.inl (wd27 hw)) Via.refl e43 F43 65 rfl (hb hby d2_62) rfl fun T44 X44 e44 => ?_
      refine own_ru 67 [(.int v31), (.int (0 : Int32)), (.ref b40)] X44 hx hby e2_65_2 rfl rfl ?_
      have f45 := (V40.other W43 (own_ne (by omega)))
      obtain ⟨cl46, Ar46, q46, S46, N46z, Hs46, G46⟩ := id f45
      have hin46 : ¬ ((0 : Int32) < 0 ∨ cl46.slots.size ≤ ((0 : Int32)).toNatClampNeg) := inb_of S46 ⟨by decide, by decide⟩
      obtain ⟨T47, h47, X47, e47, W47, st47⟩ := stI X44 hx hZ e44 Ar46 (j := (0 : Int32)) hin46 (g := (mkF m 67 #[.val (.ref a1), .val (.long z1), .second, .val (.int v31)] [(.int v31), (.int (0 : Int32)), (.ref b40)])) rfl rfl (hb hby d2_67)
      have V47 : Arv Z h47 b40 k40 .int (2 : Int32) [(.int v31), (.int (0 : Int32))] (.int (0 : Int32)) := Arv.set Ar46 q46 S46 N46z Hs46 G46 rfl W47 0 rfl (Nat.le_of_ble_eq_true rfl)
      have z47 := W47.size
      have KK47 : Keep h0 h47 [a1] := KK43.wr W47 (Or.inr (by omega))
      have N47 := Fr.snoc X47 N43 (by omega)
      refine own_sT 68 [] st47 ?_
      refine own_ru 69 [(.ref a1)] X47 hx hby e2_68_1 rfl rfl ?_
      have f48 := (Fld.other W47 F43 (Or.inl (own_ne (by omega))))
      refine own_gF X47 hx hZ hown (host := "") (Or.inl (wd27 hw)) Via.refl e47 f48 72 rfl (hb hby d2_69) rfl fun T49 X49 e49 => ?_
      refine own_ru 75 [(.int (z1.toInt32)), (.int (1 : Int32)), (.ref b40)] X49 hx hby e2_72_3 rfl rfl ?_
      obtain ⟨cl50, Ar50, q50, S50, N50z, Hs50, G50⟩ := id V47
      have hin50 : ¬ ((1 : Int32) < 0 ∨ cl50.slots.size ≤ ((1 : Int32)).toNatClampNeg) := inb_of S50 ⟨by decide, by decide⟩
      obtain ⟨T51, h51, X51, e51, W51, st51⟩ := stI X49 hx hZ e49 Ar50 (j := (1 : Int32)) hin50 (g := (mkF m 75 #[.val (.ref a1), .val (.long z1), .second, .val (.int v31)] [(.int (z1.toInt32)), (.int (1 : Int32)), (.ref b40)])) rfl rfl (hb hby d2_75)
      have V51 : Arv Z h51 b40 k40 .int (2 : Int32) [(.int v31), (.int (z1.toInt32))] (.int (0 : Int32)) := Arv.set Ar50 q50 S50 N50z Hs50 G50 rfl W51 1 rfl (Nat.le_of_ble_eq_true rfl)
      have z51 := W51.size
      have KK51 : Keep h0 h51 [a1] := KK47.wr W51 (Or.inr (by omega))
      have N51 := Fr.snoc X51 N47 (by omega)
      refine own_sT 76 [] st51 ?_
      have f53 := (Exa.wr W51 (Exa.wr W47 (Exa.wr W43 f41)))
      have hq52 : Q2 Z a1 z1 h0 n0 none h51 _ := ⟨rfl, N51, KK51, f53⟩
      exact own_retV X51 hx hlk hrt (hb hby d2_76) e51 hq52 (by decide) (by decide)
abbrev my1 : MethodName := (⟨"java/math/BigInteger", "valueOf", "(J)Ljava/math/BigInteger;"⟩ : MethodName)
theorem d1_1 : decode jdk_2097_method_29_code 1 = .ok (.lconst 0, 1) := by decide +kernel
theorem d1_2 : decode jdk_2097_method_29_code 2 = .ok (.lcmp, 1) := by decide +kernel
theorem d1_3 : decode jdk_2097_method_29_code 3 = .ok (.ifCond .ne 7, 3) := by decide +kernel
theorem d1_6 : decode jdk_2097_method_29_code 6 = .ok (.getstatic 22, 3) := by decide +kernel
theorem d1_9 : decode jdk_2097_method_29_code 9 = .ok (.areturn, 1) := by decide +kernel
theorem d1_11 : decode jdk_2097_method_29_code 11 = .ok (.lconst 0, 1) := by decide +kernel
theorem d1_12 : decode jdk_2097_method_29_code 12 = .ok (.lcmp, 1) := by decide +kernel
theorem d1_13 : decode jdk_2097_method_29_code 13 = .ok (.ifCond .le 18, 3) := by decide +kernel
theorem d1_17 : decode jdk_2097_method_29_code 17 = .ok (.ldc2_w 345, 3) := by decide +kernel
theorem d1_20 : decode jdk_2097_method_29_code 20 = .ok (.lcmp, 1) := by decide +kernel
theorem d1_21 : decode jdk_2097_method_29_code 21 = .ok (.ifCond .gt 10, 3) := by decide +kernel
theorem d1_24 : decode jdk_2097_method_29_code 24 = .ok (.getstatic 347, 3) := by decide +kernel
theorem d1_29 : decode jdk_2097_method_29_code 29 = .ok (.aaload, 1) := by decide +kernel
theorem d1_30 : decode jdk_2097_method_29_code 30 = .ok (.areturn, 1) := by decide +kernel
theorem d1_32 : decode jdk_2097_method_29_code 32 = .ok (.lconst 0, 1) := by decide +kernel
theorem d1_33 : decode jdk_2097_method_29_code 33 = .ok (.lcmp, 1) := by decide +kernel
theorem d1_34 : decode jdk_2097_method_29_code 34 = .ok (.ifCond .ge 19, 3) := by decide +kernel
theorem d1_38 : decode jdk_2097_method_29_code 38 = .ok (.ldc2_w 351, 3) := by decide +kernel
theorem d1_41 : decode jdk_2097_method_29_code 41 = .ok (.lcmp, 1) := by decide +kernel
theorem d1_42 : decode jdk_2097_method_29_code 42 = .ok (.ifCond .lt 11, 3) := by decide +kernel
theorem d1_45 : decode jdk_2097_method_29_code 45 = .ok (.getstatic 353, 3) := by decide +kernel
theorem d1_51 : decode jdk_2097_method_29_code 51 = .ok (.aaload, 1) := by decide +kernel
theorem d1_52 : decode jdk_2097_method_29_code 52 = .ok (.areturn, 1) := by decide +kernel
theorem d1_53 : decode jdk_2097_method_29_code 53 = .ok (.new 23, 3) := by decide +kernel
theorem d1_58 : decode jdk_2097_method_29_code 58 = .ok (.invokespecial 356, 3) := by decide +kernel
theorem d1_61 : decode jdk_2097_method_29_code 61 = .ok (.areturn, 1) := by decide +kernel
theorem e1_0_1 : own_dec jdk_2097_method_29_code 0 [(.lload_n 0, 1)] = true := by decide +kernel
theorem e1_10_1 : own_dec jdk_2097_method_29_code 10 [(.lload_n 0, 1)] = true := by decide +kernel
theorem e1_16_1 : own_dec jdk_2097_method_29_code 16 [(.lload_n 0, 1)] = true := by decide +kernel
theorem e1_31_1 : own_dec jdk_2097_method_29_code 31 [(.lload_n 0, 1)] = true := by decide +kernel
theorem e1_37_1 : own_dec jdk_2097_method_29_code 37 [(.lload_n 0, 1)] = true := by decide +kernel
theorem e1_56_2 : own_dec jdk_2097_method_29_code 56 [(.dup, 1), (.lload_n 0, 1)] = true := by decide +kernel
theorem e1_48_3 : own_dec jdk_2097_method_29_code 48 [(.lload_n 0, 1), (.lneg, 1), (.l2i, 1)] = true := by decide +kernel
theorem e1_27_2 : own_dec jdk_2097_method_29_code 27 [(.lload_n 0, 1), (.l2i, 1)] = true := by decide +kernel
theorem pd_1 : parseMethodDescriptor "(J)V" = some ⟨[.long], none⟩ := by decide +kernel
def Q1 (Z : State) (o_EXTRA_HIGH : Addr) (o_HIGH : Addr) (o_ZERO : Addr) (o_DEF : Addr) (kDEF : ClassId) (o_pos : Addr) (cl_pos : Cell) (o_neg : Addr) (cl_neg : Cell) (z1 : Int64) (h0 : Heap) (n0 : Nat) (v : Option Value) (h : Heap) (L : List Loc) : Prop := ∃ ob : Addr, v = some (.ref ob) ∧ Fr n0 L ∧ Keep h0 h [] ∧ ex1 Z h ob
set_option maxRecDepth 65536 in
set_option maxHeartbeats 40000000 in
theorem rm1 (l : Launch) (Z : State) (a0 : Array Value) (hw : OW a0 Z) (ws : List Jvm.Cond) (o_EXTRA_HIGH : Addr) (o_HIGH : Addr) (o_ZERO : Addr) (o_DEF : Addr) (kDEF : ClassId) (o_pos : Addr) (cl_pos : Cell) (o_neg : Addr) (cl_neg : Cell) (z1 : Int64) (h0 : Heap) (n0 : Nat) (Z0 : n0 ≤ h0.size) (OLD : Old Z n0 h0) (A : Amb Z o_EXTRA_HIGH o_HIGH o_ZERO o_DEF kDEF o_pos cl_pos o_neg cl_neg) :
    own_Met l my1 jdk_2097_method_29_code 2 (some (.object "java/math/BigInteger")) ws (own_rm 3 2 8 40) #[(.long z1)] Z h0 (Q1 Z o_EXTRA_HIGH o_HIGH o_ZERO o_DEF kDEF o_pos cl_pos o_neg cl_neg z1 h0 n0) 2 8 := by
  refine own_body (plainFor_of_name pn_1) (fun m => by first | (simp [entryFrame, mkF, argsToLocals, Value.category]; done) | rfl) (Ls := #[.val (.long z1), .second]) fun p e s m below meth c s₁ X0 hx hby hml hZ e0 hown hnm hlk hrt => ?_
  have N0 := Fr.nil n0
  refine own_ru 1 [(.long z1)] X0 hx hby e1_0_1 rfl rfl ?_
  refine own_st 2 [(.long (0 : Int64)), (.long z1)] (fun t k => XS.lconst X0.here hx rfl (hb hby d1_1) k) ?_
  refine own_st 3 [(.int (lcmpW z1 (0 : Int64)))] (fun t k => XS.lcmp X0.here hx rfl (hb hby d1_2) rfl k) ?_
  by_cases hc3 : z1 = (0 : Int64)
  · refine own_iN 6 X0 hx (hb hby d1_3) rfl ((if0 _ _).trans (teq ((lw_eq _ _).mpr hc3)).2) rfl ?_
    have f54 : Sta Z h0 "java/math/BigInteger" "ZERO" "Ljava/math/BigInteger;" (.ref o_ZERO) := Sta.ext OLD.2 (Amb.a4 A)
    refine own_gS X0 hx hZ hown (host := "") (Or.inl (wd175 hw)) Via.refl e0 f54 9 (hb hby d1_6) rfl fun T55 X55 e55 => ?_
    have f57 : ex1 Z h0 o_ZERO := Exa.ext OLD.2 (Amb.a5 A)
    have hq56 : Q1 Z o_EXTRA_HIGH o_HIGH o_ZERO o_DEF kDEF o_pos cl_pos o_neg cl_neg z1 h0 n0 (some (.ref o_ZERO)) h0 _ := ⟨o_ZERO, rfl, N0, (Keep.refl h0 []), f57⟩
    exact own_retR X55 hx hlk (w := (.ref o_ZERO)) rfl hrt rfl (hb hby d1_9) e55 hq56 (by decide) (by decide)
  · refine own_iY 10 X0 hx (hb hby d1_3) rfl ((if0 _ _).trans (feq (fun q => hc3 ((lw_eq _ _).mp q))).2) (by decide) (by decide) ?_
    refine own_ru 11 [(.long z1)] X0 hx hby e1_10_1 rfl rfl ?_
    refine own_st 12 [(.long (0 : Int64)), (.long z1)] (fun t k => XS.lconst X0.here hx rfl (hb hby d1_11) k) ?_
    refine own_st 13 [(.int (lcmpW z1 (0 : Int64)))] (fun t k => XS.lcmp X0.here hx rfl (hb hby d1_12) rfl k) ?_
    by_cases hc13 : (0 : Int64) < z1
    · refine own_iN 16 X0 hx (hb hby d1_13) rfl ((if0 _ _).trans (tlt ((lw_gt _ _).mpr hc13)).2.2.2) rfl ?_
      refine own_ru 17 [(.long z1)] X0 hx hby e1_16_1 rfl rfl ?_
      refine own_st 20 [(.long (16 : Int64)), (.long z1)] (X0.ldc2Long hx hown (mvT hZ (wd6 hw)) (g := (mkF m 17 #[.val (.long z1), .second] [(.long z1)])) rfl (hb hby d1_17)) ?_
      refine own_st 21 [(.int (lcmpW z1 (16 : Int64)))] (fun t k => XS.lcmp X0.here hx rfl (hb hby d1_20) rfl k) ?_
      by_cases hc21 : (16 : Int64) < z1
      · refine own_iY 31 X0 hx (hb hby d1_21) rfl ((if0 _ _).trans (tlt ((lw_gt _ _).mpr hc21)).2.2.1) (by decide) (by decide) ?_
        refine own_ru 32 [(.long z1)] X0 hx hby e1_31_1 rfl rfl ?_
        refine own_st 33 [(.long (0 : Int64)), (.long z1)] (fun t k => XS.lconst X0.here hx rfl (hb hby d1_32) k) ?_
        refine own_st 34 [(.int (lcmpW z1 (0 : Int64)))] (fun t k => XS.lcmp X0.here hx rfl (hb hby d1_33) rfl k) ?_
        by_cases hc34 : z1 < (0 : Int64)
        · refine own_iN 37 X0 hx (hb hby d1_34) rfl ((if0 _ _).trans (tlt ((lw_lt _ _).mpr hc34)).2.1) rfl ?_
          refine own_ru 38 [(.long z1)] X0 hx hby e1_37_1 rfl rfl ?_
          refine own_st 41 [(.long (-16 : Int64)), (.long z1)] (X0.ldc2Long hx hown (mvT hZ (wd8 hw)) (g := (mkF m 38 #[.val (.long z1), .second] [(.long z1)])) rfl (hb hby d1_38)) ?_
          refine own_st 42 [(.int (lcmpW z1 (-16 : Int64)))] (fun t k => XS.lcmp X0.here hx rfl (hb hby d1_41) rfl k) ?_
          by_cases hc42 : z1 < (-16 : Int64)
          · refine own_iY 53 X0 hx (hb hby d1_42) rfl ((if0 _ _).trans (tlt ((lw_lt _ _).mpr hc42)).1) (by decide) (by decide) ?_
            refine own_nO X0 hx hZ hown (wd9 hw) (wd10 hw) (wd4 hw) e0 56 (hb hby d1_53) rfl (by decide) (by decide) fun T58 h58 b58 g58 X58 e58 E58 A58 D58 UN58 => ?_
            have ll58 : @LT.lt Nat _ b58 (Array.size h58) := A58.lt
            have KK58 : Keep h0 h58 [] := (Keep.refl h0 []).ext E58
            have z58 := E58.1
            have F59 : fl2 Z h58 b58 (.int (0 : Int32)) := D58 (Or.inr (wd25 hw)) (ty := .int) (by decide)
            have F60 : fl3 Z h58 b58 .null := D58 (Or.inr (wd28 hw)) (ty := (.array .int)) (by decide)
            refine own_ru 58 [(.long z1), (.ref b58), (.ref b58)] X58 hx hby e1_56_2 rfl rfl ?_
            refine own_cN X58 hx hZ hown rfl (wd11 hw) (wd12 hw) (by decide) (wd14 hw) (wd4 hw) (rm2 l Z a0 hw [] b58 z1 h58 n0 (by omega) A58 F59 F60 (by omega)) e58  [(.long z1)] [(.ref b58)] 61 1 (hb hby d1_58) rfl (by rw [hml]; rfl) rfl rfl (lenOf pd_1 rfl) rfl (by decide) fun v61 T61 Lc61 X61 hQ61 => ?_
            obtain ⟨rfl, N61q, K61, G61_0⟩ := hQ61
            have N61 := Fr.app N0 N61q
            have z61 := K61.1
            have KK61 : Keep h0 T61.heap [] := KK58.trans K61 (allS (Or.inr (by omega)) all0)
            have lt61_0 : @LT.lt Nat _ b58 (Array.size T61.heap) := G61_0.lt
            have hq62 : Q1 Z o_EXTRA_HIGH o_HIGH o_ZERO o_DEF kDEF o_pos cl_pos o_neg cl_neg z1 h0 n0 (some (.ref b58)) T61.heap _ := ⟨b58, rfl, N61, KK61, G61_0⟩
            exact own_retR X61 hx hlk (w := (.ref b58)) rfl hrt rfl (hb hby d1_61) rfl hq62 (by decide) (by decide)
          · refine own_iN 45 X0 hx (hb hby d1_42) rfl ((if0 _ _).trans (flt (fun q => hc42 ((lw_lt _ _).mp q))).1) rfl ?_
            have f63 : Sta Z h0 "java/math/BigInteger" "negConst" "[Ljava/math/BigInteger;" (.ref o_neg) := Sta.ext OLD.2 (Amb.a9 A)
            refine own_gS X0 hx hZ hown (host := "") (Or.inl (wd174 hw)) Via.refl e0 f63 48 (hb hby d1_45) rfl fun T64 X64 e64 => ?_
            refine own_ru 51 [(.int ((-z1).toInt32)), (.ref o_neg)] X64 hx hby e1_48_3 rfl rfl ?_
            have ArI := (Amb.cneg A).1.ext OLD.2
            have hjI := (own_jn hc34 hc42)
            have hinI := own_in17 (Amb.cneg A).2.1 hjI.1 hjI.2
            obtain ⟨bI, hbI, hexI⟩ := (Amb.cneg A).2.2 _ hjI.1 hjI.2
            have XbI : ex1 Z h0 bI := Exa.ext OLD.2 hexI
            refine own_Fin.step (S' := T64.setTop (mkF m 52 #[.val (.long z1), .second] [(.ref bI)])) (X64.aaload hx (j := ((-z1).toInt32)) (v := .ref bI) (by rw [e64]; exact ArI.1) (State.isArrayOf_alike hZ.alike ArI.2.1) rfl ArI.2.2 hinI hbI (g := (mkF m 51 #[.val (.long z1), .second] [(.int ((-z1).toInt32)), (.ref o_neg)])) rfl rfl (hb hby d1_51)) ?_
            have hq65 : Q1 Z o_EXTRA_HIGH o_HIGH o_ZERO o_DEF kDEF o_pos cl_pos o_neg cl_neg z1 h0 n0 (some (.ref bI)) h0 _ := ⟨bI, rfl, N0, (Keep.refl h0 []), XbI⟩
            exact own_retR X64 hx hlk (w := (.ref bI)) rfl hrt rfl (hb hby d1_52) e64 hq65 (by decide) (by decide)
        · refine own_iY 53 X0 hx (hb hby d1_34) rfl ((if0 _ _).trans (flt (fun q => hc34 ((lw_lt _ _).mp q))).2.1) (by decide) (by decide) ?_
          refine own_nO X0 hx hZ hown (wd9 hw) (wd10 hw) (wd4 hw) e0 56 (hb hby d1_53) rfl (by decide) (by decide) fun T66 h66 b66 g66 X66 e66 E66 A66 D66 UN66 => ?_
          have ll66 : @LT.lt Nat _ b66 (Array.size h66) := A66.lt
          have KK66 : Keep h0 h66 [] := (Keep.refl h0 []).ext E66
          have z66 := E66.1
          have F67 : fl2 Z h66 b66 (.int (0 : Int32)) := D66 (Or.inr (wd25 hw)) (ty := .int) (by decide)
          have F68 : fl3 Z h66 b66 .null := D66 (Or.inr (wd28 hw)) (ty := (.array .int)) (by decide)
          refine own_ru 58 [(.long z1), (.ref b66), (.ref b66)] X66 hx hby e1_56_2 rfl rfl ?_
          refine own_cN X66 hx hZ hown rfl (wd11 hw) (wd12 hw) (by decide) (wd14 hw) (wd4 hw) (rm2 l Z a0 hw [] b66 z1 h66 n0 (by omega) A66 F67 F68 (by omega)) e66  [(.long z1)] [(.ref b66)] 61 1 (hb hby d1_58) rfl (by rw [hml]; rfl) rfl rfl (lenOf pd_1 rfl) rfl (by decide) fun v69 T69 Lc69 X69 hQ69 => ?_
          obtain ⟨rfl, N69q, K69, G69_0⟩ := hQ69
          have N69 := Fr.app N0 N69q
          have z69 := K69.1
          have KK69 : Keep h0 T69.heap [] := KK66.trans K69 (allS (Or.inr (by omega)) all0)
          have lt69_0 : @LT.lt Nat _ b66 (Array.size T69.heap) := G69_0.lt
          have hq70 : Q1 Z o_EXTRA_HIGH o_HIGH o_ZERO o_DEF kDEF o_pos cl_pos o_neg cl_neg z1 h0 n0 (some (.ref b66)) T69.heap _ := ⟨b66, rfl, N69, KK69, G69_0⟩
          exact own_retR X69 hx hlk (w := (.ref b66)) rfl hrt rfl (hb hby d1_61) rfl hq70 (by decide) (by decide)
      · refine own_iN 24 X0 hx (hb hby d1_21) rfl ((if0 _ _).trans (flt (fun q => hc21 ((lw_gt _ _).mp q))).2.2.1) rfl ?_
        have f71 : Sta Z h0 "java/math/BigInteger" "posConst" "[Ljava/math/BigInteger;" (.ref o_pos) := Sta.ext OLD.2 (Amb.a8 A)
        refine own_gS X0 hx hZ hown (host := "") (Or.inl (wd7 hw)) Via.refl e0 f71 27 (hb hby d1_24) rfl fun T72 X72 e72 => ?_
        refine own_ru 29 [(.int (z1.toInt32)), (.ref o_pos)] X72 hx hby e1_27_2 rfl rfl ?_
        have ArI := (Amb.cpos A).1.ext OLD.2
        have hjI := (own_jp hc13 hc21)
        have hinI := own_in17 (Amb.cpos A).2.1 hjI.1 hjI.2
        obtain ⟨bI, hbI, hexI⟩ := (Amb.cpos A).2.2 _ hjI.1 hjI.2
        have XbI : ex1 Z h0 bI := Exa.ext OLD.2 hexI
        refine own_Fin.step (S' := T72.setTop (mkF m 30 #[.val (.long z1), .second] [(.ref bI)])) (X72.aaload hx (j := (z1.toInt32)) (v := .ref bI) (by rw [e72]; exact ArI.1) (State.isArrayOf_alike hZ.alike ArI.2.1) rfl ArI.2.2 hinI hbI (g := (mkF m 29 #[.val (.long z1), .second] [(.int (z1.toInt32)), (.ref o_pos)])) rfl rfl (hb hby d1_29)) ?_
        have hq73 : Q1 Z o_EXTRA_HIGH o_HIGH o_ZERO o_DEF kDEF o_pos cl_pos o_neg cl_neg z1 h0 n0 (some (.ref bI)) h0 _ := ⟨bI, rfl, N0, (Keep.refl h0 []), XbI⟩
        exact own_retR X72 hx hlk (w := (.ref bI)) rfl hrt rfl (hb hby d1_30) e72 hq73 (by decide) (by decide)
    · refine own_iY 31 X0 hx (hb hby d1_13) rfl ((if0 _ _).trans (flt (fun q => hc13 ((lw_gt _ _).mp q))).2.2.2) (by decide) (by decide) ?_
      refine own_ru 32 [(.long z1)] X0 hx hby e1_31_1 rfl rfl ?_
      refine own_st 33 [(.long (0 : Int64)), (.long z1)] (fun t k => XS.lconst X0.here hx rfl (hb hby d1_32) k) ?_
      refine own_st 34 [(.int (lcmpW z1 (0 : Int64)))] (fun t k => XS.lcmp X0.here hx rfl (hb hby d1_33) rfl k) ?_
      by_cases hc34 : z1 < (0 : Int64)
      · refine own_iN 37 X0 hx (hb hby d1_34) rfl ((if0 _ _).trans (tlt ((lw_lt _ _).mpr hc34)).2.1) rfl ?_
        refine own_ru 38 [(.long z1)] X0 hx hby e1_37_1 rfl rfl ?_
        refine own_st 41 [(.long (-16 : Int64)), (.long z1)] (X0.ldc2Long hx hown (mvT hZ (wd8 hw)) (g := (mkF m 38 #[.val (.long z1), .second] [(.long z1)])) rfl (hb hby d1_38)) ?_
        refine own_st 42 [(.int (lcmpW z1 (-16 : Int64)))] (fun t k => XS.lcmp X0.here hx rfl (hb hby d1_41) rfl k) ?_
        by_cases hc42 : z1 < (-16 : Int64)
        · refine own_iY 53 X0 hx (hb hby d1_42) rfl ((if0 _ _).trans (tlt ((lw_lt _ _).mpr hc42)).1) (by decide) (by decide) ?_
          refine own_nO X0 hx hZ hown (wd9 hw) (wd10 hw) (wd4 hw) e0 56 (hb hby d1_53) rfl (by decide) (by decide) fun T74 h74 b74 g74 X74 e74 E74 A74 D74 UN74 => ?_
          have ll74 : @LT.lt Nat _ b74 (Array.size h74) := A74.lt
          have KK74 : Keep h0 h74 [] := (Keep.refl h0 []).ext E74
          have z74 := E74.1
          have F75 : fl2 Z h74 b74 (.int (0 : Int32)) := D74 (Or.inr (wd25 hw)) (ty := .int) (by decide)
          have F76 : fl3 Z h74 b74 .null := D74 (Or.inr (wd28 hw)) (ty := (.array .int)) (by decide)
          refine own_ru 58 [(.long z1), (.ref b74), (.ref b74)] X74 hx hby e1_56_2 rfl rfl ?_
          refine own_cN X74 hx hZ hown rfl (wd11 hw) (wd12 hw) (by decide) (wd14 hw) (wd4 hw) (rm2 l Z a0 hw [] b74 z1 h74 n0 (by omega) A74 F75 F76 (by omega)) e74  [(.long z1)] [(.ref b74)] 61 1 (hb hby d1_58) rfl (by rw [hml]; rfl) rfl rfl (lenOf pd_1 rfl) rfl (by decide) fun v77 T77 Lc77 X77 hQ77 => ?_
          obtain ⟨rfl, N77q, K77, G77_0⟩ := hQ77
          have N77 := Fr.app N0 N77q
          have z77 := K77.1
          have KK77 : Keep h0 T77.heap [] := KK74.trans K77 (allS (Or.inr (by omega)) all0)
          have lt77_0 : @LT.lt Nat _ b74 (Array.size T77.heap) := G77_0.lt
          have hq78 : Q1 Z o_EXTRA_HIGH o_HIGH o_ZERO o_DEF kDEF o_pos cl_pos o_neg cl_neg z1 h0 n0 (some (.ref b74)) T77.heap _ := ⟨b74, rfl, N77, KK77, G77_0⟩
          exact own_retR X77 hx hlk (w := (.ref b74)) rfl hrt rfl (hb hby d1_61) rfl hq78 (by decide) (by decide)
        · refine own_iN 45 X0 hx (hb hby d1_42) rfl ((if0 _ _).trans (flt (fun q => hc42 ((lw_lt _ _).mp q))).1) rfl ?_
          have f79 : Sta Z h0 "java/math/BigInteger" "negConst" "[Ljava/math/BigInteger;" (.ref o_neg) := Sta.ext OLD.2 (Amb.a9 A)
          refine own_gS X0 hx hZ hown (host := "") (Or.inl (wd174 hw)) Via.refl e0 f79 48 (hb hby d1_45) rfl fun T80 X80 e80 => ?_
          refine own_ru 51 [(.int ((-z1).toInt32)), (.ref o_neg)] X80 hx hby e1_48_3 rfl rfl ?_
          have ArI := (Amb.cneg A).1.ext OLD.2
          have hjI := (own_jn hc34 hc42)
          have hinI := own_in17 (Amb.cneg A).2.1 hjI.1 hjI.2
          obtain ⟨bI, hbI, hexI⟩ := (Amb.cneg A).2.2 _ hjI.1 hjI.2
          have XbI : ex1 Z h0 bI := Exa.ext OLD.2 hexI
          refine own_Fin.step (S' := T80.setTop (mkF m 52 #[.val (.long z1), .second] [(.ref bI)])) (X80.aaload hx (j := ((-z1).toInt32)) (v := .ref bI) (by rw [e80]; exact ArI.1) (State.isArrayOf_alike hZ.alike ArI.2.1) rfl ArI.2.2 hinI hbI (g := (mkF m 51 #[.val (.long z1), .second] [(.int ((-z1).toInt32)), (.ref o_neg)])) rfl rfl (hb hby d1_51)) ?_
          have hq81 : Q1 Z o_EXTRA_HIGH o_HIGH o_ZERO o_DEF kDEF o_pos cl_pos o_neg cl_neg z1 h0 n0 (some (.ref bI)) h0 _ := ⟨bI, rfl, N0, (Keep.refl h0 []), XbI⟩
          exact own_retR X80 hx hlk (w := (.ref bI)) rfl hrt rfl (hb hby d1_52) e80 hq81 (by decide) (by decide)
      · refine own_iY 53 X0 hx (hb hby d1_34) rfl ((if0 _ _).trans (flt (fun q => hc34 ((lw_lt _ _).mp q))).2.1) (by decide) (by decide) ?_
        refine own_nO X0 hx hZ hown (wd9 hw) (wd10 hw) (wd4 hw) e0 56 (hb hby d1_53) rfl (by decide) (by decide) fun T82 h82 b82 g82 X82 e82 E82 A82 D82 UN82 => ?_
        have ll82 : @LT.lt Nat _ b82 (Array.size h82) := A82.lt
        have KK82 : Keep h0 h82 [] := (Keep.refl h0 []).ext E82
        have z82 := E82.1
        have F83 : fl2 Z h82 b82 (.int (0 : Int32)) := D82 (Or.inr (wd25 hw)) (ty := .int) (by decide)
        have F84 : fl3 Z h82 b82 .null := D82 (Or.inr (wd28 hw)) (ty := (.array .int)) (by decide)
        refine own_ru 58 [(.long z1), (.ref b82), (.ref b82)] X82 hx hby e1_56_2 rfl rfl ?_
        refine own_cN X82 hx hZ hown rfl (wd11 hw) (wd12 hw) (by decide) (wd14 hw) (wd4 hw) (rm2 l Z a0 hw [] b82 z1 h82 n0 (by omega) A82 F83 F84 (by omega)) e82  [(.long z1)] [(.ref b82)] 61 1 (hb hby d1_58) rfl (by rw [hml]; rfl) rfl rfl (lenOf pd_1 rfl) rfl (by decide) fun v85 T85 Lc85 X85 hQ85 => ?_
        obtain ⟨rfl, N85q, K85, G85_0⟩ := hQ85
        have N85 := Fr.app N0 N85q
        have z85 := K85.1
        have KK85 : Keep h0 T85.heap [] := KK82.trans K85 (allS (Or.inr (by omega)) all0)
        have lt85_0 : @LT.lt Nat _ b82 (Array.size T85.heap) := G85_0.lt
        have hq86 : Q1 Z o_EXTRA_HIGH o_HIGH o_ZERO o_DEF kDEF o_pos cl_pos o_neg cl_neg z1 h0 n0 (some (.ref b82)) T85.heap _ := ⟨b82, rfl, N85, KK85, G85_0⟩
        exact own_retR X85 hx hlk (w := (.ref b82)) rfl hrt rfl (hb hby d1_61) rfl hq86 (by decide) (by decide)
abbrev my22 : MethodName := (⟨"java/math/BigInteger", "equals", "(Ljava/lang/Object;)Z"⟩ : MethodName)
theorem d22_2 : decode jdk_2097_method_124_code 2 = .ok (.if_acmp .ne 5, 3) := by decide +kernel
theorem d22_6 : decode jdk_2097_method_124_code 6 = .ok (.ireturn, 1) := by decide +kernel
theorem e22_0_2 : own_dec jdk_2097_method_124_code 0 [(.aload_n 1, 1), (.aload_n 0, 1)] = true := by decide +kernel
theorem e22_5_1 : own_dec jdk_2097_method_124_code 5 [(.iconst 1, 1)] = true := by decide +kernel
def Q22 (Z : State) (a1 : Addr) (h0 : Heap) (n0 : Nat) (v : Option Value) (h : Heap) (L : List Loc) : Prop := v = some (.int (1 : Int32)) ∧ Fr n0 L ∧ h = h0
set_option maxRecDepth 65536 in
set_option maxHeartbeats 40000000 in
theorem rm22 (l : Launch) (Z : State) (a0 : Array Value) (hw : OW a0 Z) (ws : List Jvm.Cond) (a1 : Addr) (h0 : Heap) (n0 : Nat) (Z0 : n0 ≤ h0.size)  :
    own_Met l my22 jdk_2097_method_124_code 7 (some .boolean) ws (own_rm 0 0 0 0) #[(.ref a1), (.ref a1)] Z h0 (Q22 Z a1 h0 n0) 0 0 := by
  refine own_body (plainFor_of_name pn_1) (fun m => by first | (simp [entryFrame, mkF, argsToLocals, Value.category]; done) | rfl) (Ls := #[.val (.ref a1), .val (.ref a1), .unset, .unset, .unset, .unset, .unset]) fun p e s m below meth c s₁ X0 hx hby hml hZ e0 hown hnm hlk hrt => ?_
  have N0 := Fr.nil n0
  refine own_ru 2 [(.ref a1), (.ref a1)] X0 hx hby e22_0_2 rfl rfl ?_
  refine own_st 5 [] (fun t k => Jvm.RoadKit.acmp (g := (mkF m 2 #[.val (.ref a1), .val (.ref a1), .unset, .unset, .unset, .unset, .unset] [(.ref a1), (.ref a1)])) X0 hx rfl rfl rfl (pc0 := 2) (pc' := 5) (same := true) rfl (hb hby d22_2) rfl (decide_eq_true rfl) (by decide) (by decide) k) ?_
  refine own_ru 6 [(.int (1 : Int32))] X0 hx hby e22_5_1 rfl rfl ?_
  have hq87 : Q22 Z a1 h0 n0 (some (.int (nar .boolean (1 : Int32)))) h0 _ := ⟨rfl, N0, rfl⟩
  exact own_retN X0 hx hlk (t := .boolean) hrt (by simp) (hb hby d22_6) e0 hq87 (by decide) (by decide)
abbrev my7 : MethodName := (⟨"java/util/AbstractCollection", "<init>", "()V"⟩ : MethodName)
theorem d7_1 : decode jdk_22_method_1_code 1 = .ok (.invokespecial 1, 3) := by decide +kernel
theorem d7_4 : decode jdk_22_method_1_code 4 = .ok (.return_, 1) := by decide +kernel
theorem e7_0_1 : own_dec jdk_22_method_1_code 0 [(.aload_n 0, 1)] = true := by decide +kernel
theorem pn_2 : plainName "java/util/AbstractCollection" = true := by first | (simp [plainName, overriddenIn]; done) | decide +kernel
def Q7 (Z : State) (a1 : Addr) (h0 : Heap) (n0 : Nat) (v : Option Value) (h : Heap) (L : List Loc) : Prop := v = none ∧ Fr n0 L ∧ h = h0
set_option maxRecDepth 65536 in
set_option maxHeartbeats 40000000 in
theorem rm7 (l : Launch) (Z : State) (a0 : Array Value) (hw : OW a0 Z) (ws : List Jvm.Cond) (a1 : Addr) (h0 : Heap) (n0 : Nat) (Z0 : n0 ≤ h0.size)  :
    own_Met l my7 jdk_22_method_1_code 1 none ws (own_rm 1 0 0 12) #[(.ref a1)] Z h0 (Q7 Z a1 h0 n0) 0 0 := by
  refine own_body (plainFor_of_name pn_2) (fun m => by first | (simp [entryFrame, mkF, argsToLocals, Value.category]; done) | rfl) (Ls := #[.val (.ref a1)]) fun p e s m below meth c s₁ X0 hx hby hml hZ e0 hown hnm hlk hrt => ?_
  have N0 := Fr.nil n0
  refine own_ru 1 [(.ref a1)] X0 hx hby e7_0_1 rfl rfl ?_
  refine own_iO X0 hx hZ hown (wd50 hw) (wd22 hw) (wd23 hw) e0 4 0 (by rw [hml]; rfl) rfl (hb hby d7_1) rfl (by decide) rfl (by decide) fun T88 X88 e88 => ?_
  have hq89 : Q7 Z a1 h0 n0 none h0 _ := ⟨rfl, N0, rfl⟩
  exact own_retV X88 hx hlk hrt (hb hby d7_4) e88 hq89 (by decide) (by decide)
abbrev my6 : MethodName := (⟨"java/util/AbstractList", "<init>", "()V"⟩ : MethodName)
theorem d6_1 : decode jdk_39_method_1_code 1 = .ok (.invokespecial 1, 3) := by decide +kernel
theorem d6_6 : decode jdk_39_method_1_code 6 = .ok (.putfield 7, 3) := by decide +kernel
theorem d6_9 : decode jdk_39_method_1_code 9 = .ok (.return_, 1) := by decide +kernel
theorem e6_0_1 : own_dec jdk_39_method_1_code 0 [(.aload_n 0, 1)] = true := by decide +kernel
theorem e6_4_2 : own_dec jdk_39_method_1_code 4 [(.aload_n 0, 1), (.iconst 0, 1)] = true := by decide +kernel
theorem pn_3 : plainName "java/util/AbstractList" = true := by first | (simp [plainName, overriddenIn]; done) | decide +kernel
def Q6 (Z : State) (a1 : Addr) (h0 : Heap) (n0 : Nat) (v : Option Value) (h : Heap) (L : List Loc) : Prop := v = none ∧ Fr n0 L ∧ Keep h0 h [a1] ∧ ex4 Z h a1 ∧ fl5 Z h a1 (.int (0 : Int32)) ∧ fl6 Z h a1 (.int (0 : Int32)) ∧ fl7 Z h a1 .null
set_option maxRecDepth 65536 in
set_option maxHeartbeats 40000000 in
theorem rm6 (l : Launch) (Z : State) (a0 : Array Value) (hw : OW a0 Z) (ws : List Jvm.Cond) (a1 : Addr) (h0 : Heap) (n0 : Nat) (Z0 : n0 ≤ h0.size) (P0 : ex4 Z h0 a1) (P1 : fl5 Z h0 a1 (.int (0 : Int32))) (P2 : fl6 Z h0 a1 (.int (0 : Int32))) (P3 : fl7 Z h0 a1 .null) (g_a1 : n0 ≤ a1) :
    own_Met l my6 jdk_39_method_1_code 1 none ws (own_rm 2 0 0 24) #[(.ref a1)] Z h0 (Q6 Z a1 h0 n0) 0 0 := by
  refine own_body (plainFor_of_name pn_3) (fun m => by first | (simp [entryFrame, mkF, argsToLocals, Value.category]; done) | rfl) (Ls := #[.val (.ref a1)]) fun p e s m below meth c s₁ X0 hx hby hml hZ e0 hown hnm hlk hrt => ?_
  have N0 := Fr.nil n0
  have lt_P0 : @LT.lt Nat _ a1 (Array.size h0) := P0.lt
  refine own_ru 1 [(.ref a1)] X0 hx hby e6_0_1 rfl rfl ?_
  refine own_cN X0 hx hZ hown rfl (wd44 hw) (wd45 hw) (by decide) (wd49 hw) (wd48 hw) (rm7 l Z a0 hw [] a1 h0 n0 (by omega) ) e0  [] [] 4 0 (hb hby d6_1) rfl (by rw [hml]; rfl) rfl rfl (lenOf pd_0 rfl) rfl (by decide) fun v90 T90 Lc90 X90 hQ90 => ?_
  obtain ⟨rfl, N90q, e90⟩ := hQ90
  have N90 := Fr.app N0 N90q
  refine own_ru 6 [(.int (0 : Int32)), (.ref a1)] X90 hx hby e6_4_2 rfl rfl ?_
  refine own_pF X90 hx hZ hown (host := "") (Or.inl (wd51 hw)) Via.refl e90 P1 P0 (Or.inl (wd52 hw)) (wd33 hw) (ty := .int) (by decide) rfl rfl 9 rfl (hb hby d6_6) rfl fun T91 h91 X91 e91 W91 => ?_
  have F91 := Fld.same W91 P1
  have z91 := W91.size
  have KK91 : Keep h0 h91 [a1] := (Keep.refl h0 [a1]).wr W91 (Or.inl (by simp))
  have N91 := Fr.snoc X91 N90 (by omega)
  have f93 := (Exa.wr W91 P0)
  have f94 := (Fld.other W91 P2 (Or.inr (slot_ne (Or.inl (wd68 hw)) (Or.inl (wd52 hw)) (by decide) (t := .int) (t' := .int) (by decide) (by decide))))
  have f95 := (Fld.other W91 P3 (Or.inr (slot_ne (Or.inl (wd55 hw)) (Or.inl (wd52 hw)) (by decide) (t := (.array (.object "java/lang/Object"))) (t' := .int) (by decide) (by decide))))
  have hq92 : Q6 Z a1 h0 n0 none h91 _ := ⟨rfl, N91, KK91, f93, F91, f94, f95⟩
  exact own_retV X91 hx hlk hrt (hb hby d6_9) e91 hq92 (by decide) (by decide)
abbrev my5 : MethodName := (⟨"java/util/ArrayList", "<init>", "()V"⟩ : MethodName)
theorem d5_1 : decode jdk_38_method_2_code 1 = .ok (.invokespecial 1, 3) := by decide +kernel
theorem d5_5 : decode jdk_38_method_2_code 5 = .ok (.getstatic 39, 3) := by decide +kernel
theorem d5_8 : decode jdk_38_method_2_code 8 = .ok (.putfield 9, 3) := by decide +kernel
theorem d5_11 : decode jdk_38_method_2_code 11 = .ok (.return_, 1) := by decide +kernel
theorem e5_0_1 : own_dec jdk_38_method_2_code 0 [(.aload_n 0, 1)] = true := by decide +kernel
theorem e5_4_1 : own_dec jdk_38_method_2_code 4 [(.aload_n 0, 1)] = true := by decide +kernel
theorem pn_4 : plainName "java/util/ArrayList" = true := by first | (simp [plainName, overriddenIn]; done) | decide +kernel
def Q5 (Z : State) (o_EXTRA_HIGH : Addr) (o_HIGH : Addr) (o_ZERO : Addr) (o_DEF : Addr) (kDEF : ClassId) (o_pos : Addr) (cl_pos : Cell) (o_neg : Addr) (cl_neg : Cell) (a1 : Addr) (h0 : Heap) (n0 : Nat) (v : Option Value) (h : Heap) (L : List Loc) : Prop := v = none ∧ Fr n0 L ∧ Keep h0 h [a1] ∧ ex4 Z h a1 ∧ fl5 Z h a1 (.int (0 : Int32)) ∧ fl6 Z h a1 (.int (0 : Int32)) ∧ fl7 Z h a1 (.ref o_DEF)
set_option maxRecDepth 65536 in
set_option maxHeartbeats 40000000 in
theorem rm5 (l : Launch) (Z : State) (a0 : Array Value) (hw : OW a0 Z) (ws : List Jvm.Cond) (o_EXTRA_HIGH : Addr) (o_HIGH : Addr) (o_ZERO : Addr) (o_DEF : Addr) (kDEF : ClassId) (o_pos : Addr) (cl_pos : Cell) (o_neg : Addr) (cl_neg : Cell) (a1 : Addr) (h0 : Heap) (n0 : Nat) (Z0 : n0 ≤ h0.size) (OLD : Old Z n0 h0) (A : Amb Z o_EXTRA_HIGH o_HIGH o_ZERO o_DEF kDEF o_pos cl_pos o_neg cl_neg) (P0 : ex4 Z h0 a1) (P1 : fl5 Z h0 a1 (.int (0 : Int32))) (P2 : fl6 Z h0 a1 (.int (0 : Int32))) (P3 : fl7 Z h0 a1 .null) (g_a1 : n0 ≤ a1) :
    own_Met l my5 jdk_38_method_2_code 1 none ws (own_rm 3 0 0 36) #[(.ref a1)] Z h0 (Q5 Z o_EXTRA_HIGH o_HIGH o_ZERO o_DEF kDEF o_pos cl_pos o_neg cl_neg a1 h0 n0) 0 0 := by
  refine own_body (plainFor_of_name pn_4) (fun m => by first | (simp [entryFrame, mkF, argsToLocals, Value.category]; done) | rfl) (Ls := #[.val (.ref a1)]) fun p e s m below meth c s₁ X0 hx hby hml hZ e0 hown hnm hlk hrt => ?_
  have N0 := Fr.nil n0
  have lt_P0 : @LT.lt Nat _ a1 (Array.size h0) := P0.lt
  refine own_ru 1 [(.ref a1)] X0 hx hby e5_0_1 rfl rfl ?_
  refine own_cN X0 hx hZ hown rfl (wd38 hw) (wd39 hw) (by decide) (wd43 hw) (wd42 hw) (rm6 l Z a0 hw [] a1 h0 n0 (by omega) P0 P1 P2 P3 (by omega)) e0  [] [] 4 0 (hb hby d5_1) rfl (by rw [hml]; rfl) rfl rfl (lenOf pd_0 rfl) rfl (by decide) fun v96 T96 Lc96 X96 hQ96 => ?_
  obtain ⟨rfl, N96q, K96, G96_0, G96_1, G96_2, G96_3⟩ := hQ96
  have N96 := Fr.app N0 N96q
  have z96 := K96.1
  have KK96 : Keep h0 T96.heap [a1] := (Keep.refl h0 [a1]).trans K96 (allS (Or.inl (by simp)) all0)
  have lt96_0 : @LT.lt Nat _ a1 (Array.size T96.heap) := G96_0.lt
  refine own_ru 5 [(.ref a1)] X96 hx hby e5_4_1 rfl rfl ?_
  have f97 := (OLD.keep K96 (allS (by omega) all0))
  have f98 : Sta Z T96.heap "java/util/ArrayList" "DEFAULTCAPACITY_EMPTY_ELEMENTDATA" "[Ljava/lang/Object;" (.ref o_DEF) := Sta.ext f97.2 (Amb.a6 A)
  refine own_gS X96 hx hZ hown (host := "") (Or.inl (wd53 hw)) Via.refl rfl f98 8 (hb hby d5_5) rfl fun T99 X99 e99 => ?_
  refine own_pF X99 hx hZ hown (host := "") (Or.inl (wd54 hw)) Via.refl e99 G96_3 G96_0 (Or.inl (wd55 hw)) (wd33 hw) (ty := (.array (.object "java/lang/Object"))) (by decide) rfl rfl 11 rfl (hb hby d5_8) rfl fun T100 h100 X100 e100 W100 => ?_
  have F100 := Fld.same W100 G96_3
  have z100 := W100.size
  have KK100 : Keep h0 h100 [a1] := KK96.wr W100 (Or.inl (by simp))
  have N100 := Fr.snoc X100 N96 (by omega)
  have f102 := (Exa.wr W100 G96_0)
  have f103 := (Fld.other W100 G96_1 (Or.inr (slot_ne (Or.inl (wd52 hw)) (Or.inl (wd55 hw)) (by decide) (t := .int) (t' := (.array (.object "java/lang/Object"))) (by decide) (by decide))))
  have f104 := (Fld.other W100 G96_2 (Or.inr (slot_ne (Or.inl (wd68 hw)) (Or.inl (wd55 hw)) (by decide) (t := .int) (t' := (.array (.object "java/lang/Object"))) (by decide) (by decide))))
  have hq101 : Q5 Z o_EXTRA_HIGH o_HIGH o_ZERO o_DEF kDEF o_pos cl_pos o_neg cl_neg a1 h0 n0 none h100 _ := ⟨rfl, N100, KK100, f102, f103, f104, F100⟩
  exact own_retV X100 hx hlk hrt (hb hby d5_11) e100 hq101 (by decide) (by decide)
abbrev my12 : MethodName := (⟨"java/lang/Math", "max", "(II)I"⟩ : MethodName)
theorem d12_2 : decode jdk_29_method_65_code 2 = .ok (.if_icmp .lt 7, 3) := by decide +kernel
theorem d12_6 : decode jdk_29_method_65_code 6 = .ok (.goto 4, 3) := by decide +kernel
theorem d12_10 : decode jdk_29_method_65_code 10 = .ok (.ireturn, 1) := by decide +kernel
theorem e12_0_2 : own_dec jdk_29_method_65_code 0 [(.iload_n 0, 1), (.iload_n 1, 1)] = true := by decide +kernel
theorem e12_5_1 : own_dec jdk_29_method_65_code 5 [(.iload_n 0, 1)] = true := by decide +kernel
def Q12 (Z : State)  (h0 : Heap) (n0 : Nat) (v : Option Value) (h : Heap) (L : List Loc) : Prop := v = some (.int (10 : Int32)) ∧ Fr n0 L ∧ h = h0
set_option maxRecDepth 65536 in
set_option maxHeartbeats 40000000 in
theorem rm12 (l : Launch) (Z : State) (a0 : Array Value) (hw : OW a0 Z) (ws : List Jvm.Cond)  (h0 : Heap) (n0 : Nat) (Z0 : n0 ≤ h0.size)  :
    own_Met l my12 jdk_29_method_65_code 2 (some .int) ws (own_rm 0 0 0 0) #[(.int (10 : Int32)), (.int (1 : Int32))] Z h0 (Q12 Z  h0 n0) 0 0 := by
  refine own_body (Jvm.Free.JP.mathPlain rfl (by decide +kernel)) (fun m => by first | (simp [entryFrame, mkF, argsToLocals, Value.category]; done) | rfl) (Ls := #[.val (.int (10 : Int32)), .val (.int (1 : Int32))]) fun p e s m below meth c s₁ X0 hx hby hml hZ e0 hown hnm hlk hrt => ?_
  have N0 := Fr.nil n0
  refine own_ru 2 [(.int (1 : Int32)), (.int (10 : Int32))] X0 hx hby e12_0_2 rfl rfl ?_
  refine own_kN 5 X0 hx (hb hby d12_2) rfl (flt (by decide : ¬ ((10 : Int32) < (1 : Int32)))).1 rfl ?_
  refine own_ru 6 [(.int (10 : Int32))] X0 hx hby e12_5_1 rfl rfl ?_
  refine own_go 10 X0 hx (hb hby d12_6) (by decide) (by decide) ?_
  have hq105 : Q12 Z  h0 n0 (some (.int (10 : Int32))) h0 _ := ⟨rfl, N0, rfl⟩
  exact own_retI X0 hx hlk hrt (hb hby d12_10) e0 hq105 (by decide) (by decide)
abbrev my11 : MethodName := (⟨"java/util/ArrayList", "grow", "(I)[Ljava/lang/Object;"⟩ : MethodName)
theorem d11_1 : decode jdk_38_method_6_code 1 = .ok (.getfield 9, 3) := by decide +kernel
theorem d11_4 : decode jdk_38_method_6_code 4 = .ok (.arraylength, 1) := by decide +kernel
theorem d11_7 : decode jdk_38_method_6_code 7 = .ok (.ifCond .gt 13, 3) := by decide +kernel
theorem d11_11 : decode jdk_38_method_6_code 11 = .ok (.getfield 9, 3) := by decide +kernel
theorem d11_14 : decode jdk_38_method_6_code 14 = .ok (.getstatic 39, 3) := by decide +kernel
theorem d11_17 : decode jdk_38_method_6_code 17 = .ok (.if_acmp .eq 28, 3) := by decide +kernel
theorem d11_49 : decode jdk_38_method_6_code 49 = .ok (.invokestatic 79, 3) := by decide +kernel
theorem d11_52 : decode jdk_38_method_6_code 52 = .ok (.anewarray 7, 3) := by decide +kernel
theorem d11_56 : decode jdk_38_method_6_code 56 = .ok (.putfield 9, 3) := by decide +kernel
theorem d11_59 : decode jdk_38_method_6_code 59 = .ok (.areturn, 1) := by decide +kernel
theorem e11_0_1 : own_dec jdk_38_method_6_code 0 [(.aload_n 0, 1)] = true := by decide +kernel
theorem e11_5_2 : own_dec jdk_38_method_6_code 5 [(.istore_n 2, 1), (.iload_n 2, 1)] = true := by decide +kernel
theorem e11_10_1 : own_dec jdk_38_method_6_code 10 [(.aload_n 0, 1)] = true := by decide +kernel
theorem e11_45_3 : own_dec jdk_38_method_6_code 45 [(.aload_n 0, 1), (.bipush 10, 2), (.iload_n 1, 1)] = true := by decide +kernel
theorem e11_55_1 : own_dec jdk_38_method_6_code 55 [(.dup_x1, 1)] = true := by decide +kernel
theorem pd_2 : parseMethodDescriptor "(II)I" = some ⟨[.int, .int], some .int⟩ := by decide +kernel
def Q11 (Z : State) (o_EXTRA_HIGH : Addr) (o_HIGH : Addr) (o_ZERO : Addr) (o_DEF : Addr) (kDEF : ClassId) (o_pos : Addr) (cl_pos : Cell) (o_neg : Addr) (cl_neg : Cell) (a1 : Addr) (mc : Int32) (h0 : Heap) (n0 : Nat) (v : Option Value) (h : Heap) (L : List Loc) : Prop := ∃ ar : Addr, ∃ kk : ClassId, v = some (.ref ar) ∧ Fr n0 L ∧ Keep h0 h [a1] ∧ ex4 Z h a1 ∧ fl5 Z h a1 (.int mc) ∧ fl6 Z h a1 (.int (0 : Int32)) ∧ fl7 Z h a1 (.ref ar) ∧ Arv Z h ar kk (.object "java/lang/Object") (10 : Int32) [.null, .null, .null, .null, .null, .null, .null, .null, .null, .null] .null ∧ (Ovr Z kk "java/lang/Object") ∧ (h0.size ≤ ar)
set_option maxRecDepth 65536 in
set_option maxHeartbeats 40000000 in
theorem rm11 (l : Launch) (Z : State) (a0 : Array Value) (hw : OW a0 Z) (ws : List Jvm.Cond) (o_EXTRA_HIGH : Addr) (o_HIGH : Addr) (o_ZERO : Addr) (o_DEF : Addr) (kDEF : ClassId) (o_pos : Addr) (cl_pos : Cell) (o_neg : Addr) (cl_neg : Cell) (a1 : Addr) (mc : Int32) (h0 : Heap) (n0 : Nat) (Z0 : n0 ≤ h0.size) (OLD : Old Z n0 h0) (A : Amb Z o_EXTRA_HIGH o_HIGH o_ZERO o_DEF kDEF o_pos cl_pos o_neg cl_neg) (P0 : ex4 Z h0 a1) (P1 : fl5 Z h0 a1 (.int mc)) (P2 : fl6 Z h0 a1 (.int (0 : Int32))) (P3 : fl7 Z h0 a1 (.ref o_DEF)) (g_a1 : n0 ≤ a1) :
    own_Met l my11 jdk_38_method_6_code 4 (some (.array (.object "java/lang/Object"))) ws (own_rm 1 1 10 14) #[(.ref a1), (.int (1 : Int32))] Z h0 (Q11 Z o_EXTRA_HIGH o_HIGH o_ZERO o_DEF kDEF o_pos cl_pos o_neg cl_neg a1 mc h0 n0) 1 10 := by
  refine own_body (plainFor_of_name pn_4) (fun m => by first | (simp [entryFrame, mkF, argsToLocals, Value.category]; done) | rfl) (Ls := #[.val (.ref a1), .val (.int (1 : Int32)), .unset, .unset]) fun p e s m below meth c s₁ X0 hx hby hml hZ e0 hown hnm hlk hrt => ?_
  have N0 := Fr.nil n0
  have lt_P0 : @LT.lt Nat _ a1 (Array.size h0) := P0.lt
  refine own_ru 1 [(.ref a1)] X0 hx hby e11_0_1 rfl rfl ?_
  refine own_gF X0 hx hZ hown (host := "") (Or.inl (wd54 hw)) Via.refl e0 P3 4 rfl (hb hby d11_1) rfl fun T106 X106 e106 => ?_
  have f107 : Arv Z h0 o_DEF kDEF (.object "java/lang/Object") (0 : Int32) [] .null := Arv.ext (Amb.a7 A) OLD.2
  refine own_aL X106 hx hZ e106 f107 5 rfl (hb hby d11_4) rfl ?_
  refine own_rl 7 #[.val (.ref a1), .val (.int (1 : Int32)), .val (.int (0 : Int32)), .unset] [(.int (0 : Int32))] X106 hx hby e11_5_2 rfl rfl ?_
  refine own_iN 10 X106 hx (hb hby d11_7) rfl ((if0 _ _).trans (flt (by decide : ¬ ((0 : Int32) < (0 : Int32)))).2.2.1) rfl ?_
  refine own_ru 11 [(.ref a1)] X106 hx hby e11_10_1 rfl rfl ?_
  refine own_gF X106 hx hZ hown (host := "") (Or.inl (wd54 hw)) Via.refl e106 P3 14 rfl (hb hby d11_11) rfl fun T108 X108 e108 => ?_
  have f109 : Sta Z h0 "java/util/ArrayList" "DEFAULTCAPACITY_EMPTY_ELEMENTDATA" "[Ljava/lang/Object;" (.ref o_DEF) := Sta.ext OLD.2 (Amb.a6 A)
  refine own_gS X108 hx hZ hown (host := "") (Or.inl (wd53 hw)) Via.refl e108 f109 17 (hb hby d11_14) rfl fun T110 X110 e110 => ?_
  refine own_st 45 [] (fun t k => Jvm.RoadKit.acmp (g := (mkF m 17 #[.val (.ref a1), .val (.int (1 : Int32)), .val (.int (0 : Int32)), .unset] [(.ref o_DEF), (.ref o_DEF)])) X110 hx rfl rfl rfl (pc0 := 17) (pc' := 45) (same := true) rfl (hb hby d11_17) rfl (decide_eq_true rfl) (by decide) (by decide) k) ?_
  refine own_ru 49 [(.int (1 : Int32)), (.int (10 : Int32)), (.ref a1)] X110 hx hby e11_45_3 rfl rfl ?_
  refine own_cS X110 hx hZ hown (wd84 hw) (wd85 hw) (by decide) (wd87 hw) (wd86 hw) (rm12 l Z a0 hw []  h0 n0 (by omega) ) e110  [(.int (10 : Int32)), (.int (1 : Int32))] [(.ref a1)] 52 1 (hb hby d11_49) rfl (by rw [hml]; rfl) rfl rfl (lenOf pd_2 rfl) rfl (by decide) fun v111 T111 Lc111 X111 hQ111 => ?_
  obtain ⟨rfl, N111q, e111⟩ := hQ111
  have N111 := Fr.app N0 N111q
  refine own_nR X111 hx hZ hown (wd88 hw) (wd89 hw) e111 55 (hb hby d11_52) rfl rfl (by decide) (cap := 10) (by decide) (by decide) (by decide) (by decide) (ad := "[Ljava/lang/Object;") rfl fun T112 h112 k112 b112 g112 X112 e112 E112 A112 B112 O112 => ?_
  have ll112 : @LT.lt Nat _ b112 (Array.size h112) := A112.lt
  have KK112 : Keep h0 h112 [a1] := (Keep.refl h0 [a1]).ext E112
  have z112 := E112.1
  have V112 : Arv Z h112 b112 k112 (.object "java/lang/Object") (10 : Int32) [.null, .null, .null, .null, .null, .null, .null, .null, .null, .null] .null := (Arv.new A112 (by decide)).pad (pad_rep [] .null 10)
  refine own_ru 56 [(.ref b112), (.ref a1), (.ref b112)] X112 hx hby e11_55_1 rfl rfl ?_
  have f113 := (Exa.ext E112 P0)
  have f114 := (Fld.ext E112 P3)
  refine own_pF X112 hx hZ hown (host := "") (Or.inl (wd54 hw)) Via.refl e112 f114 f113 (Or.inl (wd55 hw)) (wd33 hw) (ty := (.array (.object "java/lang/Object"))) (by decide) rfl rfl 59 rfl (hb hby d11_56) rfl fun T115 h115 X115 e115 W115 => ?_
  have F115 := Fld.same W115 f114
  have z115 := W115.size
  have KK115 : Keep h0 h115 [a1] := KK112.wr W115 (Or.inl (by simp))
  have N115 := Fr.snoc X115 N111 (by omega)
  have f117 := (Exa.wr W115 f113)
  have f118 := (Fld.other W115 (Fld.ext E112 P1) (Or.inr (slot_ne (Or.inl (wd52 hw)) (Or.inl (wd55 hw)) (by decide) (t := .int) (t' := (.array (.object "java/lang/Object"))) (by decide) (by decide))))
  have f119 := (Fld.other W115 (Fld.ext E112 P2) (Or.inr (slot_ne (Or.inl (wd68 hw)) (Or.inl (wd55 hw)) (by decide) (t := .int) (t' := (.array (.object "java/lang/Object"))) (by decide) (by decide))))
  have f120 := (V112.other W115 (own_ne (by omega)))
  have hq116 : Q11 Z o_EXTRA_HIGH o_HIGH o_ZERO o_DEF kDEF o_pos cl_pos o_neg cl_neg a1 mc h0 n0 (some (.ref b112)) h115 _ := ⟨b112, k112, rfl, N115, KK115, f117, f118, f119, F115, f120, O112, (by omega)⟩
  exact own_retR X115 hx hlk (w := (.ref b112)) rfl hrt rfl (hb hby d11_59) e115 hq116 (by decide) (by decide)
abbrev my10 : MethodName := (⟨"java/util/ArrayList", "grow", "()[Ljava/lang/Object;"⟩ : MethodName)
theorem d10_2 : decode jdk_38_method_7_code 2 = .ok (.getfield 48, 3) := by decide +kernel
theorem d10_7 : decode jdk_38_method_7_code 7 = .ok (.invokevirtual 69, 3) := by decide +kernel
theorem d10_10 : decode jdk_38_method_7_code 10 = .ok (.areturn, 1) := by decide +kernel
theorem e10_0_2 : own_dec jdk_38_method_7_code 0 [(.aload_n 0, 1), (.aload_n 0, 1)] = true := by decide +kernel
theorem e10_5_2 : own_dec jdk_38_method_7_code 5 [(.iconst 1, 1), (.iadd, 1)] = true := by decide +kernel
theorem pd_3 : parseMethodDescriptor "(I)[Ljava/lang/Object;" = some ⟨[.int], some (.array (.object "java/lang/Object"))⟩ := by decide +kernel
def Q10 (Z : State) (o_EXTRA_HIGH : Addr) (o_HIGH : Addr) (o_ZERO : Addr) (o_DEF : Addr) (kDEF : ClassId) (o_pos : Addr) (cl_pos : Cell) (o_neg : Addr) (cl_neg : Cell) (a1 : Addr) (mc : Int32) (h0 : Heap) (n0 : Nat) (v : Option Value) (h : Heap) (L : List Loc) : Prop := ∃ ar : Addr, ∃ kk : ClassId, v = some (.ref ar) ∧ Fr n0 L ∧ Keep h0 h [a1] ∧ ex4 Z h a1 ∧ fl5 Z h a1 (.int mc) ∧ fl6 Z h a1 (.int (0 : Int32)) ∧ fl7 Z h a1 (.ref ar) ∧ Arv Z h ar kk (.object "java/lang/Object") (10 : Int32) [.null, .null, .null, .null, .null, .null, .null, .null, .null, .null] .null ∧ (Ovr Z kk "java/lang/Object") ∧ (h0.size ≤ ar)
set_option maxRecDepth 65536 in
set_option maxHeartbeats 40000000 in
theorem rm10 (l : Launch) (Z : State) (a0 : Array Value) (hw : OW a0 Z) (ws : List Jvm.Cond) (o_EXTRA_HIGH : Addr) (o_HIGH : Addr) (o_ZERO : Addr) (o_DEF : Addr) (kDEF : ClassId) (o_pos : Addr) (cl_pos : Cell) (o_neg : Addr) (cl_neg : Cell) (a1 : Addr) (mc : Int32) (h0 : Heap) (n0 : Nat) (Z0 : n0 ≤ h0.size) (OLD : Old Z n0 h0) (A : Amb Z o_EXTRA_HIGH o_HIGH o_ZERO o_DEF kDEF o_pos cl_pos o_neg cl_neg) (P0 : ex4 Z h0 a1) (P1 : fl5 Z h0 a1 (.int mc)) (P2 : fl6 Z h0 a1 (.int (0 : Int32))) (P3 : fl7 Z h0 a1 (.ref o_DEF)) (g_a1 : n0 ≤ a1) :
    own_Met l my10 jdk_38_method_7_code 1 (some (.array (.object "java/lang/Object"))) ws (own_rm 2 1 10 29) #[(.ref a1)] Z h0 (Q10 Z o_EXTRA_HIGH o_HIGH o_ZERO o_DEF kDEF o_pos cl_pos o_neg cl_neg a1 mc h0 n0) 1 10 := by
  refine own_body (plainFor_of_name pn_4) (fun m => by first | (simp [entryFrame, mkF, argsToLocals, Value.category]; done) | rfl) (Ls := #[.val (.ref a1)]) fun p e s m below meth c s₁ X0 hx hby hml hZ e0 hown hnm hlk hrt => ?_
  have N0 := Fr.nil n0
  have lt_P0 : @LT.lt Nat _ a1 (Array.size h0) := P0.lt
  refine own_ru 2 [(.ref a1), (.ref a1)] X0 hx hby e10_0_2 rfl rfl ?_
  refine own_gF X0 hx hZ hown (host := "") (Or.inl (wd67 hw)) Via.refl e0 P2 5 rfl (hb hby d10_2) rfl fun T121 X121 e121 => ?_
  refine own_ru 7 [(.int (1 : Int32)), (.ref a1)] X121 hx hby e10_5_2 rfl rfl ?_
  refine own_cG X121 hx hZ hown (wd79 hw) (wd80 hw) (mvT hZ (wd82 hw)) (wd81 hw) (by decide) (wd83 hw) (wd34 hw) (rm11 l Z a0 hw [] o_EXTRA_HIGH o_HIGH o_ZERO o_DEF kDEF o_pos cl_pos o_neg cl_neg a1 mc h0 n0 (by omega) OLD A P0 P1 P2 P3 (by omega)) e121 P0 [(.int (1 : Int32))] [] 10 0 (hb hby d10_7) rfl (by rw [hml]; rfl) rfl rfl (lenOf pd_3 rfl) rfl (by decide) fun v122 T122 Lc122 X122 hQ122 => ?_
  obtain ⟨ar_122, kk_122, rfl, N122q, K122, G122_0, G122_1, G122_2, G122_3, G122_4, U122_0, U122_1⟩ := hQ122
  have N122 := Fr.app N0 N122q
  have z122 := K122.1
  have KK122 : Keep h0 T122.heap [a1] := (Keep.refl h0 [a1]).trans K122 (allS (Or.inl (by simp)) all0)
  have lt122_0 : @LT.lt Nat _ a1 (Array.size T122.heap) := G122_0.lt
  have lt122_4 : @LT.lt Nat _ ar_122 (Array.size T122.heap) := G122_4.lt
  have hq123 : Q10 Z o_EXTRA_HIGH o_HIGH o_ZERO o_DEF kDEF o_pos cl_pos o_neg cl_neg a1 mc h0 n0 (some (.ref ar_122)) T122.heap _ := ⟨ar_122, kk_122, rfl, N122, KK122, G122_0, G122_1, G122_2, G122_3, G122_4, U122_0, (by omega)⟩
  exact own_retR X122 hx hlk (w := (.ref ar_122)) rfl hrt rfl (hb hby d10_10) rfl hq123 (by decide) (by decide)
abbrev my9 : MethodName := (⟨"java/util/ArrayList", "add", "(Ljava/lang/Object;[Ljava/lang/Object;I)V"⟩ : MethodName)
theorem d9_2 : decode jdk_38_method_24_code 2 = .ok (.arraylength, 1) := by decide +kernel
theorem d9_3 : decode jdk_38_method_24_code 3 = .ok (.if_icmp .ne 8, 3) := by decide +kernel
theorem d9_7 : decode jdk_38_method_24_code 7 = .ok (.invokevirtual 129, 3) := by decide +kernel
theorem d9_14 : decode jdk_38_method_24_code 14 = .ok (.aastore, 1) := by decide +kernel
theorem d9_19 : decode jdk_38_method_24_code 19 = .ok (.putfield 48, 3) := by decide +kernel
theorem d9_22 : decode jdk_38_method_24_code 22 = .ok (.return_, 1) := by decide +kernel
theorem e9_0_2 : own_dec jdk_38_method_24_code 0 [(.iload_n 3, 1), (.aload_n 2, 1)] = true := by decide +kernel
theorem e9_6_1 : own_dec jdk_38_method_24_code 6 [(.aload_n 0, 1)] = true := by decide +kernel
theorem e9_10_4 : own_dec jdk_38_method_24_code 10 [(.astore_n 2, 1), (.aload_n 2, 1), (.iload_n 3, 1), (.aload_n 1, 1)] = true := by decide +kernel
theorem e9_15_4 : own_dec jdk_38_method_24_code 15 [(.aload_n 0, 1), (.iload_n 3, 1), (.iconst 1, 1), (.iadd, 1)] = true := by decide +kernel
theorem pd_4 : parseMethodDescriptor "()[Ljava/lang/Object;" = some ⟨[], some (.array (.object "java/lang/Object"))⟩ := by decide +kernel
def Q9z (Z : State) (o_EXTRA_HIGH : Addr) (o_HIGH : Addr) (o_ZERO : Addr) (o_DEF : Addr) (kDEF : ClassId) (o_pos : Addr) (cl_pos : Cell) (o_neg : Addr) (cl_neg : Cell) (a1 : Addr) (ob : Addr) (mc : Int32) (h0 : Heap) (n0 : Nat) (v : Option Value) (h : Heap) (L : List Loc) : Prop := ∃ ar : Addr, ∃ kk : ClassId, v = none ∧ Fr n0 L ∧ Keep h0 h [a1] ∧ ex4 Z h a1 ∧ fl5 Z h a1 (.int mc) ∧ fl6 Z h a1 (.int (1 : Int32)) ∧ fl7 Z h a1 (.ref ar) ∧ Arv Z h ar kk (.object "java/lang/Object") (10 : Int32) [(.ref ob), .null, .null, .null, .null, .null, .null, .null, .null, .null] .null ∧ (Ovr Z kk "java/lang/Object") ∧ (h0.size ≤ ar)
set_option maxRecDepth 65536 in
set_option maxHeartbeats 40000000 in
theorem rm9z (l : Launch) (Z : State) (a0 : Array Value) (hw : OW a0 Z) (ws : List Jvm.Cond) (o_EXTRA_HIGH : Addr) (o_HIGH : Addr) (o_ZERO : Addr) (o_DEF : Addr) (kDEF : ClassId) (o_pos : Addr) (cl_pos : Cell) (o_neg : Addr) (cl_neg : Cell) (a1 : Addr) (ob : Addr) (mc : Int32) (h0 : Heap) (n0 : Nat) (Z0 : n0 ≤ h0.size) (OLD : Old Z n0 h0) (A : Amb Z o_EXTRA_HIGH o_HIGH o_ZERO o_DEF kDEF o_pos cl_pos o_neg cl_neg) (P0 : ex4 Z h0 a1) (P1 : fl5 Z h0 a1 (.int mc)) (P2 : fl6 Z h0 a1 (.int (0 : Int32))) (P3 : fl7 Z h0 a1 (.ref o_DEF)) (P4 : Ins Z h0 ob "java/lang/Object" true) (g_a1 : n0 ≤ a1) :
    own_Met l my9 jdk_38_method_24_code 4 none ws (own_rm 3 1 10 41) #[(.ref a1), (.ref ob), (.ref o_DEF), (.int (0 : Int32))] Z h0 (Q9z Z o_EXTRA_HIGH o_HIGH o_ZERO o_DEF kDEF o_pos cl_pos o_neg cl_neg a1 ob mc h0 n0) 1 10 := by
  refine own_body (plainFor_of_name pn_4) (fun m => by first | (simp [entryFrame, mkF, argsToLocals, Value.category]; done) | rfl) (Ls := #[.val (.ref a1), .val (.ref ob), .val (.ref o_DEF), .val (.int (0 : Int32))]) fun p e s m below meth c s₁ X0 hx hby hml hZ e0 hown hnm hlk hrt => ?_
  have N0 := Fr.nil n0
  have lt_P0 : @LT.lt Nat _ a1 (Array.size h0) := P0.lt
  refine own_ru 2 [(.ref o_DEF), (.int (0 : Int32))] X0 hx hby e9_0_2 rfl rfl ?_
  have f124 : Arv Z h0 o_DEF kDEF (.object "java/lang/Object") (0 : Int32) [] .null := Arv.ext (Amb.a7 A) OLD.2
  refine own_aL X0 hx hZ e0 f124 3 rfl (hb hby d9_2) rfl ?_
  refine own_kN 6 X0 hx (hb hby d9_3) rfl (teq (by decide : ((0 : Int32) = (0 : Int32)))).2 rfl ?_
  refine own_ru 7 [(.ref a1)] X0 hx hby e9_6_1 rfl rfl ?_
  refine own_cG X0 hx hZ hown (wd74 hw) (wd75 hw) (mvT hZ (wd77 hw)) (wd76 hw) (by decide) (wd78 hw) (wd34 hw) (rm10 l Z a0 hw [] o_EXTRA_HIGH o_HIGH o_ZERO o_DEF kDEF o_pos cl_pos o_neg cl_neg a1 mc h0 n0 (by omega) OLD A P0 P1 P2 P3 (by omega)) e0 P0 [] [] 10 0 (hb hby d9_7) rfl (by rw [hml]; rfl) rfl rfl (lenOf pd_4 rfl) rfl (by decide) fun v125 T125 Lc125 X125 hQ125 => ?_
  obtain ⟨ar_125, kk_125, rfl, N125q, K125, G125_0, G125_1, G125_2, G125_3, G125_4, U125_0, U125_1⟩ := hQ125
  have N125 := Fr.app N0 N125q
  have z125 := K125.1
  have KK125 : Keep h0 T125.heap [a1] := (Keep.refl h0 [a1]).trans K125 (allS (Or.inl (by simp)) all0)
  have lt125_0 : @LT.lt Nat _ a1 (Array.size T125.heap) := G125_0.lt
  have lt125_4 : @LT.lt Nat _ ar_125 (Array.size T125.heap) := G125_4.lt
  refine own_rl 14 #[.val (.ref a1), .val (.ref ob), .val (.ref ar_125), .val (.int (0 : Int32))] [(.ref ob), (.int (0 : Int32)), (.ref ar_125)] X125 hx hby e9_10_4 rfl rfl ?_
  obtain ⟨cl126, Ar126, q126, S126, N126z, Hs126, G126⟩ := id G125_4
  have hin126 : ¬ ((0 : Int32) < 0 ∨ cl126.slots.size ≤ ((0 : Int32)).toNatClampNeg) := inb_of S126 ⟨by decide, by decide⟩
  have f127 := (own_insKeep P4 K125)
  obtain ⟨T128, h128, X128, e128, W128, st128⟩ := stR X125 hx hZ rfl Ar126 (j := (0 : Int32)) hin126 rfl (Sto.ofV Ar126 q126 U125_0 f127) (g := (mkF m 14 #[.val (.ref a1), .val (.ref ob), .val (.ref ar_125), .val (.int (0 : Int32))] [(.ref ob), (.int (0 : Int32)), (.ref ar_125)])) rfl rfl (hb hby d9_14)
  have V128 : Arv Z h128 ar_125 kk_125 (.object "java/lang/Object") (10 : Int32) [(.ref ob), .null, .null, .null, .null, .null, .null, .null, .null, .null] .null := Arv.set Ar126 q126 S126 N126z Hs126 G126 rfl W128 0 rfl (Nat.le_of_ble_eq_true rfl)
  have z128 := W128.size
  have KK128 : Keep h0 h128 [a1] := KK125.wr W128 (Or.inr (by omega))
  have N128 := Fr.snoc X128 N125 (by omega)
  refine own_sT 15 [] st128 ?_
  refine own_ru 19 [(.int (1 : Int32)), (.ref a1)] X128 hx hby e9_15_4 rfl rfl ?_
  have f129 := (Exa.wr W128 G125_0)
  have f130 := (Fld.other W128 G125_2 (Or.inl (own_ne (by omega))))
  refine own_pF X128 hx hZ hown (host := "") (Or.inl (wd67 hw)) Via.refl e128 f130 f129 (Or.inl (wd68 hw)) (wd33 hw) (ty := .int) (by decide) rfl rfl 22 rfl (hb hby d9_19) rfl fun T131 h131 X131 e131 W131 => ?_
  have F131 := Fld.same W131 f130
  have z131 := W131.size
  have KK131 : Keep h0 h131 [a1] := KK128.wr W131 (Or.inl (by simp))
  have N131 := Fr.snoc X131 N128 (by omega)
  have f133 := (Exa.wr W131 f129)
  have f134 := (Fld.other W131 (Fld.other W128 G125_1 (Or.inl (own_ne (by omega)))) (Or.inr (slot_ne (Or.inl (wd52 hw)) (Or.inl (wd68 hw)) (by decide) (t := .int) (t' := .int) (by decide) (by decide))))
  have f135 := (Fld.other W131 (Fld.other W128 G125_3 (Or.inl (own_ne (by omega)))) (Or.inr (slot_ne (Or.inl (wd55 hw)) (Or.inl (wd68 hw)) (by decide) (t := (.array (.object "java/lang/Object"))) (t' := .int) (by decide) (by decide))))
  have f136 := (V128.other W131 (own_ne (by omega)))
  have hq132 : Q9z Z o_EXTRA_HIGH o_HIGH o_ZERO o_DEF kDEF o_pos cl_pos o_neg cl_neg a1 ob mc h0 n0 none h131 _ := ⟨ar_125, kk_125, rfl, N131, KK131, f133, f134, F131, f135, f136, U125_0, (by omega)⟩
  exact own_retV X131 hx hlk hrt (hb hby d9_22) e131 hq132 (by decide) (by decide)
theorem e9_11_3 : own_dec jdk_38_method_24_code 11 [(.aload_n 2, 1), (.iload_n 3, 1), (.aload_n 1, 1)] = true := by decide +kernel
def Q9s1 (Z : State) (a1 : Addr) (ob : Addr) (mc : Int32) (ar : Addr) (kk : ClassId) (vs : List Value) (h0 : Heap) (n0 : Nat) (v : Option Value) (h : Heap) (L : List Loc) : Prop := v = none ∧ Fr n0 L ∧ Keep h0 h [a1, ar] ∧ ex4 Z h a1 ∧ fl5 Z h a1 (.int mc) ∧ fl6 Z h a1 (.int (2 : Int32)) ∧ fl7 Z h a1 (.ref ar) ∧ Arv Z h ar kk (.object "java/lang/Object") (10 : Int32) (vs.set ((1 : Int32)).toNatClampNeg (.ref ob)) .null
set_option maxRecDepth 65536 in
set_option maxHeartbeats 40000000 in
theorem rm9s1 (l : Launch) (Z : State) (a0 : Array Value) (hw : OW a0 Z) (ws : List Jvm.Cond) (a1 : Addr) (ob : Addr) (mc : Int32) (ar : Addr) (kk : ClassId) (vs : List Value) (h0 : Heap) (n0 : Nat) (Z0 : n0 ≤ h0.size) (P0 : ex4 Z h0 a1) (P1 : fl5 Z h0 a1 (.int mc)) (P2 : fl6 Z h0 a1 (.int (1 : Int32))) (P3 : fl7 Z h0 a1 (.ref ar)) (P4 : Arv Z h0 ar kk (.object "java/lang/Object") (10 : Int32) vs .null) (P5 : Ins Z h0 ob "java/lang/Object" true) (g_a1 : n0 ≤ a1) (g_ar : n0 ≤ ar) (hl : vs.length = 10) (hO : Ovr Z kk "java/lang/Object") (hne : @Ne Nat a1 ar) :
    own_Met l my9 jdk_38_method_24_code 4 none ws (own_rm 0 0 0 0) #[(.ref a1), (.ref ob), (.ref ar), (.int (1 : Int32))] Z h0 (Q9s1 Z a1 ob mc ar kk vs h0 n0) 0 0 := by
  refine own_body (plainFor_of_name pn_4) (fun m => by first | (simp [entryFrame, mkF, argsToLocals, Value.category]; done) | rfl) (Ls := #[.val (.ref a1), .val (.ref ob), .val (.ref ar), .val (.int (1 : Int32))]) fun p e s m below meth c s₁ X0 hx hby hml hZ e0 hown hnm hlk hrt => ?_
  have N0 := Fr.nil n0
  have lt_P0 : @LT.lt Nat _ a1 (Array.size h0) := P0.lt
  have lt_P4 : @LT.lt Nat _ ar (Array.size h0) := P4.lt
  refine own_ru 2 [(.ref ar), (.int (1 : Int32))] X0 hx hby e9_0_2 rfl rfl ?_
  refine own_aL X0 hx hZ e0 P4 3 rfl (hb hby d9_2) rfl ?_
  refine own_kY 11 X0 hx (hb hby d9_3) rfl (feq (by decide : ¬ ((1 : Int32) = (10 : Int32)))).2 (by decide) (by decide) ?_
  refine own_ru 14 [(.ref ob), (.int (1 : Int32)), (.ref ar)] X0 hx hby e9_11_3 rfl rfl ?_
  obtain ⟨cl137, Ar137, q137, S137, N137z, Hs137, G137⟩ := id P4
  have hin137 : ¬ ((1 : Int32) < 0 ∨ cl137.slots.size ≤ ((1 : Int32)).toNatClampNeg) := inb_of S137 ⟨by decide, by decide⟩
  obtain ⟨T138, h138, X138, e138, W138, st138⟩ := stR X0 hx hZ e0 Ar137 (j := (1 : Int32)) hin137 rfl (Sto.ofV Ar137 q137 hO P5) (g := (mkF m 14 #[.val (.ref a1), .val (.ref ob), .val (.ref ar), .val (.int (1 : Int32))] [(.ref ob), (.int (1 : Int32)), (.ref ar)])) rfl rfl (hb hby d9_14)
  have V138 : Arv Z h138 ar kk (.object "java/lang/Object") (10 : Int32) (vs.set ((1 : Int32)).toNatClampNeg (.ref ob)) .null := Arv.set Ar137 q137 S137 N137z Hs137 G137 rfl W138 _ rfl (by rw [hl]; decide)
  have z138 := W138.size
  have KK138 : Keep h0 h138 [a1, ar] := (Keep.refl h0 [a1, ar]).wr W138 (Or.inl (by simp))
  have N138 := Fr.snoc X138 N0 (by omega)
  refine own_sT 15 [] st138 ?_
  refine own_ru 19 [(.int (2 : Int32)), (.ref a1)] X138 hx hby e9_15_4 rfl rfl ?_
  have f139 := (Exa.wr W138 P0)
  have f140 := (Fld.other W138 P2 (Or.inl (own_ne (by omega))))
  refine own_pF X138 hx hZ hown (host := "") (Or.inl (wd67 hw)) Via.refl e138 f140 f139 (Or.inl (wd68 hw)) (wd33 hw) (ty := .int) (by decide) rfl rfl 22 rfl (hb hby d9_19) rfl fun T141 h141 X141 e141 W141 => ?_
  have F141 := Fld.same W141 f140
  have z141 := W141.size
  have KK141 : Keep h0 h141 [a1, ar] := KK138.wr W141 (Or.inl (by simp))
  have N141 := Fr.snoc X141 N138 (by omega)
  have f143 := (Exa.wr W141 f139)
  have f144 := (Fld.other W141 (Fld.other W138 P1 (Or.inl (own_ne (by omega)))) (Or.inr (slot_ne (Or.inl (wd52 hw)) (Or.inl (wd68 hw)) (by decide) (t := .int) (t' := .int) (by decide) (by decide))))
  have f145 := (Fld.other W141 (Fld.other W138 P3 (Or.inl (own_ne (by omega)))) (Or.inr (slot_ne (Or.inl (wd55 hw)) (Or.inl (wd68 hw)) (by decide) (t := (.array (.object "java/lang/Object"))) (t' := .int) (by decide) (by decide))))
  have f146 := (V138.other W141 (own_ne (by omega)))
  have hq142 : Q9s1 Z a1 ob mc ar kk vs h0 n0 none h141 _ := ⟨rfl, N141, KK141, f143, f144, F141, f145, f146⟩
  exact own_retV X141 hx hlk hrt (hb hby d9_22) e141 hq142 (by decide) (by decide)
def Q9s2 (Z : State) (a1 : Addr) (ob : Addr) (mc : Int32) (ar : Addr) (kk : ClassId) (vs : List Value) (h0 : Heap) (n0 : Nat) (v : Option Value) (h : Heap) (L : List Loc) : Prop := v = none ∧ Fr n0 L ∧ Keep h0 h [a1, ar] ∧ ex4 Z h a1 ∧ fl5 Z h a1 (.int mc) ∧ fl6 Z h a1 (.int (3 : Int32)) ∧ fl7 Z h a1 (.ref ar) ∧ Arv Z h ar kk (.object "java/lang/Object") (10 : Int32) (vs.set ((2 : Int32)).toNatClampNeg (.ref ob)) .null
set_option maxRecDepth 65536 in
set_option maxHeartbeats 40000000 in
theorem rm9s2 (l : Launch) (Z : State) (a0 : Array Value) (hw : OW a0 Z) (ws : List Jvm.Cond) (a1 : Addr) (ob : Addr) (mc : Int32) (ar : Addr) (kk : ClassId) (vs : List Value) (h0 : Heap) (n0 : Nat) (Z0 : n0 ≤ h0.size) (P0 : ex4 Z h0 a1) (P1 : fl5 Z h0 a1 (.int mc)) (P2 : fl6 Z h0 a1 (.int (2 : Int32))) (P3 : fl7 Z h0 a1 (.ref ar)) (P4 : Arv Z h0 ar kk (.object "java/lang/Object") (10 : Int32) vs .null) (P5 : Ins Z h0 ob "java/lang/Object" true) (g_a1 : n0 ≤ a1) (g_ar : n0 ≤ ar) (hl : vs.length = 10) (hO : Ovr Z kk "java/lang/Object") (hne : @Ne Nat a1 ar) :
    own_Met l my9 jdk_38_method_24_code 4 none ws (own_rm 0 0 0 0) #[(.ref a1), (.ref ob), (.ref ar), (.int (2 : Int32))] Z h0 (Q9s2 Z a1 ob mc ar kk vs h0 n0) 0 0 := by
  refine own_body (plainFor_of_name pn_4) (fun m => by first | (simp [entryFrame, mkF, argsToLocals, Value.category]; done) | rfl) (Ls := #[.val (.ref a1), .val (.ref ob), .val (.ref ar), .val (.int (2 : Int32))]) fun p e s m below meth c s₁ X0 hx hby hml hZ e0 hown hnm hlk hrt => ?_
  have N0 := Fr.nil n0
  have lt_P0 : @LT.lt Nat _ a1 (Array.size h0) := P0.lt
  have lt_P4 : @LT.lt Nat _ ar (Array.size h0) := P4.lt
  refine own_ru 2 [(.ref ar), (.int (2 : Int32))] X0 hx hby e9_0_2 rfl rfl ?_
  refine own_aL X0 hx hZ e0 P4 3 rfl (hb hby d9_2) rfl ?_
  refine own_kY 11 X0 hx (hb hby d9_3) rfl (feq (by decide : ¬ ((2 : Int32) = (10 : Int32)))).2 (by decide) (by decide) ?_
  refine own_ru 14 [(.ref ob), (.int (2 : Int32)), (.ref ar)] X0 hx hby e9_11_3 rfl rfl ?_
  obtain ⟨cl147, Ar147, q147, S147, N147z, Hs147, G147⟩ := id P4
  have hin147 : ¬ ((2 : Int32) < 0 ∨ cl147.slots.size ≤ ((2 : Int32)).toNatClampNeg) := inb_of S147 ⟨by decide, by decide⟩
  obtain ⟨T148, h148, X148, e148, W148, st148⟩ := stR X0 hx hZ e0 Ar147 (j := (2 : Int32)) hin147 rfl (Sto.ofV Ar147 q147 hO P5) (g := (mkF m 14 #[.val (.ref a1), .val (.ref ob), .val (.ref ar), .val (.int (2 : Int32))] [(.ref ob), (.int (2 : Int32)), (.ref ar)])) rfl rfl (hb hby d9_14)
  have V148 : Arv Z h148 ar kk (.object "java/lang/Object") (10 : Int32) (vs.set ((2 : Int32)).toNatClampNeg (.ref ob)) .null := Arv.set Ar147 q147 S147 N147z Hs147 G147 rfl W148 _ rfl (by rw [hl]; decide)
  have z148 := W148.size
  have KK148 : Keep h0 h148 [a1, ar] := (Keep.refl h0 [a1, ar]).wr W148 (Or.inl (by simp))
  have N148 := Fr.snoc X148 N0 (by omega)
  refine own_sT 15 [] st148 ?_
  refine own_ru 19 [(.int (3 : Int32)), (.ref a1)] X148 hx hby e9_15_4 rfl rfl ?_
  have f149 := (Exa.wr W148 P0)
  have f150 := (Fld.other W148 P2 (Or.inl (own_ne (by omega))))
  refine own_pF X148 hx hZ hown (host := "") (Or.inl (wd67 hw)) Via.refl e148 f150 f149 (Or.inl (wd68 hw)) (wd33 hw) (ty := .int) (by decide) rfl rfl 22 rfl (hb hby d9_19) rfl fun T151 h151 X151 e151 W151 => ?_
  have F151 := Fld.same W151 f150
  have z151 := W151.size
  have KK151 : Keep h0 h151 [a1, ar] := KK148.wr W151 (Or.inl (by simp))
  have N151 := Fr.snoc X151 N148 (by omega)
  have f153 := (Exa.wr W151 f149)
  have f154 := (Fld.other W151 (Fld.other W148 P1 (Or.inl (own_ne (by omega)))) (Or.inr (slot_ne (Or.inl (wd52 hw)) (Or.inl (wd68 hw)) (by decide) (t := .int) (t' := .int) (by decide) (by decide))))
  have f155 := (Fld.other W151 (Fld.other W148 P3 (Or.inl (own_ne (by omega)))) (Or.inr (slot_ne (Or.inl (wd55 hw)) (Or.inl (wd68 hw)) (by decide) (t := (.array (.object "java/lang/Object"))) (t' := .int) (by decide) (by decide))))
  have f156 := (V148.other W151 (own_ne (by omega)))
  have hq152 : Q9s2 Z a1 ob mc ar kk vs h0 n0 none h151 _ := ⟨rfl, N151, KK151, f153, f154, F151, f155, f156⟩
  exact own_retV X151 hx hlk hrt (hb hby d9_22) e151 hq152 (by decide) (by decide)
abbrev my8 : MethodName := (⟨"java/util/ArrayList", "add", "(Ljava/lang/Object;)Z"⟩ : MethodName)
theorem d8_2 : decode jdk_38_method_25_code 2 = .ok (.getfield 63, 3) := by decide +kernel
theorem d8_7 : decode jdk_38_method_25_code 7 = .ok (.putfield 63, 3) := by decide +kernel
theorem d8_13 : decode jdk_38_method_25_code 13 = .ok (.getfield 9, 3) := by decide +kernel
theorem d8_17 : decode jdk_38_method_25_code 17 = .ok (.getfield 48, 3) := by decide +kernel
theorem d8_20 : decode jdk_38_method_25_code 20 = .ok (.invokevirtual 131, 3) := by decide +kernel
theorem d8_24 : decode jdk_38_method_25_code 24 = .ok (.ireturn, 1) := by decide +kernel
theorem e8_0_2 : own_dec jdk_38_method_25_code 0 [(.aload_n 0, 1), (.dup, 1)] = true := by decide +kernel
theorem e8_5_2 : own_dec jdk_38_method_25_code 5 [(.iconst 1, 1), (.iadd, 1)] = true := by decide +kernel
theorem e8_10_3 : own_dec jdk_38_method_25_code 10 [(.aload_n 0, 1), (.aload_n 1, 1), (.aload_n 0, 1)] = true := by decide +kernel
theorem e8_16_1 : own_dec jdk_38_method_25_code 16 [(.aload_n 0, 1)] = true := by decide +kernel
theorem e8_23_1 : own_dec jdk_38_method_25_code 23 [(.iconst 1, 1)] = true := by decide +kernel
theorem pd_5 : parseMethodDescriptor "(Ljava/lang/Object;[Ljava/lang/Object;I)V" = some ⟨[(.object "java/lang/Object"), (.array (.object "java/lang/Object")), .int], none⟩ := by decide +kernel
def Q8z (Z : State) (o_EXTRA_HIGH : Addr) (o_HIGH : Addr) (o_ZERO : Addr) (o_DEF : Addr) (kDEF : ClassId) (o_pos : Addr) (cl_pos : Cell) (o_neg : Addr) (cl_neg : Cell) (a1 : Addr) (ob : Addr) (mc : Int32) (h0 : Heap) (n0 : Nat) (v : Option Value) (h : Heap) (L : List Loc) : Prop := ∃ ar : Addr, ∃ kk : ClassId, v = some (.int (1 : Int32)) ∧ Fr n0 L ∧ Keep h0 h [a1] ∧ ex4 Z h a1 ∧ fl5 Z h a1 (.int (mc + (1 : Int32))) ∧ fl6 Z h a1 (.int (1 : Int32)) ∧ fl7 Z h a1 (.ref ar) ∧ Arv Z h ar kk (.object "java/lang/Object") (10 : Int32) [(.ref ob), .null, .null, .null, .null, .null, .null, .null, .null, .null] .null ∧ (Ovr Z kk "java/lang/Object") ∧ (h0.size ≤ ar)
set_option maxRecDepth 65536 in
set_option maxHeartbeats 40000000 in
theorem rm8z (l : Launch) (Z : State) (a0 : Array Value) (hw : OW a0 Z) (ws : List Jvm.Cond) (o_EXTRA_HIGH : Addr) (o_HIGH : Addr) (o_ZERO : Addr) (o_DEF : Addr) (kDEF : ClassId) (o_pos : Addr) (cl_pos : Cell) (o_neg : Addr) (cl_neg : Cell) (a1 : Addr) (ob : Addr) (mc : Int32) (h0 : Heap) (n0 : Nat) (Z0 : n0 ≤ h0.size) (OLD : Old Z n0 h0) (A : Amb Z o_EXTRA_HIGH o_HIGH o_ZERO o_DEF kDEF o_pos cl_pos o_neg cl_neg) (P0 : ex4 Z h0 a1) (P1 : fl5 Z h0 a1 (.int mc)) (P2 : fl6 Z h0 a1 (.int (0 : Int32))) (P3 : fl7 Z h0 a1 (.ref o_DEF)) (P4 : Ins Z h0 ob "java/lang/Object" true) (g_a1 : n0 ≤ a1) :
    own_Met l my8 jdk_38_method_25_code 2 (some .boolean) ws (own_rm 4 1 10 56) #[(.ref a1), (.ref ob)] Z h0 (Q8z Z o_EXTRA_HIGH o_HIGH o_ZERO o_DEF kDEF o_pos cl_pos o_neg cl_neg a1 ob mc h0 n0) 1 10 := by
  refine own_body (plainFor_of_name pn_4) (fun m => by first | (simp [entryFrame, mkF, argsToLocals, Value.category]; done) | rfl) (Ls := #[.val (.ref a1), .val (.ref ob)]) fun p e s m below meth c s₁ X0 hx hby hml hZ e0 hown hnm hlk hrt => ?_
  have N0 := Fr.nil n0
  have lt_P0 : @LT.lt Nat _ a1 (Array.size h0) := P0.lt
  refine own_ru 2 [(.ref a1), (.ref a1)] X0 hx hby e8_0_2 rfl rfl ?_
  refine own_gF X0 hx hZ hown (host := "") (Or.inl (wd65 hw)) (Via.of (wd66 hw)) e0 P1 5 rfl (hb hby d8_2) rfl fun T157 X157 e157 => ?_
  refine own_ru 7 [(.int (mc + (1 : Int32))), (.ref a1)] X157 hx hby e8_5_2 rfl rfl ?_
  refine own_pF X157 hx hZ hown (host := "") (Or.inl (wd65 hw)) (Via.of (wd66 hw)) e157 P1 P0 (Or.inl (wd52 hw)) (wd33 hw) (ty := .int) (by decide) rfl rfl 10 rfl (hb hby d8_7) rfl fun T158 h158 X158 e158 W158 => ?_
  have F158 := Fld.same W158 P1
  have z158 := W158.size
  have KK158 : Keep h0 h158 [a1] := (Keep.refl h0 [a1]).wr W158 (Or.inl (by simp))
  have N158 := Fr.snoc X158 N0 (by omega)
  refine own_ru 13 [(.ref a1), (.ref ob), (.ref a1)] X158 hx hby e8_10_3 rfl rfl ?_
  have f159 := (Fld.other W158 P3 (Or.inr (slot_ne (Or.inl (wd55 hw)) (Or.inl (wd52 hw)) (by decide) (t := (.array (.object "java/lang/Object"))) (t' := .int) (by decide) (by decide))))
  refine own_gF X158 hx hZ hown (host := "") (Or.inl (wd54 hw)) Via.refl e158 f159 16 rfl (hb hby d8_13) rfl fun T160 X160 e160 => ?_
  refine own_ru 17 [(.ref a1), (.ref o_DEF), (.ref ob), (.ref a1)] X160 hx hby e8_16_1 rfl rfl ?_
  have f161 := (Fld.other W158 P2 (Or.inr (slot_ne (Or.inl (wd68 hw)) (Or.inl (wd52 hw)) (by decide) (t := .int) (t' := .int) (by decide) (by decide))))
  refine own_gF X160 hx hZ hown (host := "") (Or.inl (wd67 hw)) Via.refl e160 f161 20 rfl (hb hby d8_17) rfl fun T162 X162 e162 => ?_
  have f163 := (OLD.wr W158 (by omega))
  have f164 := (Exa.wr W158 P0)
  have f165 := (Ins.wr W158 P4)
  refine own_cG X162 hx hZ hown (wd69 hw) (wd70 hw) (mvT hZ (wd72 hw)) (wd71 hw) (by decide) (wd73 hw) (wd34 hw) (rm9z l Z a0 hw [] o_EXTRA_HIGH o_HIGH o_ZERO o_DEF kDEF o_pos cl_pos o_neg cl_neg a1 ob (mc + (1 : Int32)) h158 n0 (by omega) f163 A f164 F158 f161 f159 f165 (by omega)) e162 f164 [(.ref ob), (.ref o_DEF), (.int (0 : Int32))] [] 23 0 (hb hby d8_20) rfl (by rw [hml]; rfl) rfl rfl (lenOf pd_5 rfl) rfl (by decide) fun v166 T166 Lc166 X166 hQ166 => ?_
  obtain ⟨ar_166, kk_166, rfl, N166q, K166, G166_0, G166_1, G166_2, G166_3, G166_4, U166_0, U166_1⟩ := hQ166
  have N166 := Fr.app N158 N166q
  have z166 := K166.1
  have KK166 : Keep h0 T166.heap [a1] := KK158.trans K166 (allS (Or.inl (by simp)) all0)
  have lt166_0 : @LT.lt Nat _ a1 (Array.size T166.heap) := G166_0.lt
  have lt166_4 : @LT.lt Nat _ ar_166 (Array.size T166.heap) := G166_4.lt
  refine own_ru 24 [(.int (1 : Int32))] X166 hx hby e8_23_1 rfl rfl ?_
  have hq167 : Q8z Z o_EXTRA_HIGH o_HIGH o_ZERO o_DEF kDEF o_pos cl_pos o_neg cl_neg a1 ob mc h0 n0 (some (.int (nar .boolean (1 : Int32)))) T166.heap _ := ⟨ar_166, kk_166, rfl, N166, KK166, G166_0, G166_1, G166_2, G166_3, G166_4, U166_0, (by omega)⟩
  exact own_retN X166 hx hlk (t := .boolean) hrt (by simp) (hb hby d8_24) rfl hq167 (by decide) (by decide)
def Q8s1 (Z : State) (a1 : Addr) (ob : Addr) (mc : Int32) (ar : Addr) (kk : ClassId) (vs : List Value) (h0 : Heap) (n0 : Nat) (v : Option Value) (h : Heap) (L : List Loc) : Prop := v = some (.int (1 : Int32)) ∧ Fr n0 L ∧ Keep h0 h [a1, ar] ∧ ex4 Z h a1 ∧ fl5 Z h a1 (.int (mc + (1 : Int32))) ∧ fl6 Z h a1 (.int (2 : Int32)) ∧ fl7 Z h a1 (.ref ar) ∧ Arv Z h ar kk (.object "java/lang/Object") (10 : Int32) (vs.set ((1 : Int32)).toNatClampNeg (.ref ob)) .null
set_option maxRecDepth 65536 in
set_option maxHeartbeats 40000000 in
theorem rm8s1 (l : Launch) (Z : State) (a0 : Array Value) (hw : OW a0 Z) (ws : List Jvm.Cond) (a1 : Addr) (ob : Addr) (mc : Int32) (ar : Addr) (kk : ClassId) (vs : List Value) (h0 : Heap) (n0 : Nat) (Z0 : n0 ≤ h0.size) (P0 : ex4 Z h0 a1) (P1 : fl5 Z h0 a1 (.int mc)) (P2 : fl6 Z h0 a1 (.int (1 : Int32))) (P3 : fl7 Z h0 a1 (.ref ar)) (P4 : Arv Z h0 ar kk (.object "java/lang/Object") (10 : Int32) vs .null) (P5 : Ins Z h0 ob "java/lang/Object" true) (g_a1 : n0 ≤ a1) (g_ar : n0 ≤ ar) (hl : vs.length = 10) (hO : Ovr Z kk "java/lang/Object") (hne : @Ne Nat a1 ar) :
    own_Met l my8 jdk_38_method_25_code 2 (some .boolean) ws (own_rm 1 0 0 15) #[(.ref a1), (.ref ob)] Z h0 (Q8s1 Z a1 ob mc ar kk vs h0 n0) 0 0 := by
  refine own_body (plainFor_of_name pn_4) (fun m => by first | (simp [entryFrame, mkF, argsToLocals, Value.category]; done) | rfl) (Ls := #[.val (.ref a1), .val (.ref ob)]) fun p e s m below meth c s₁ X0 hx hby hml hZ e0 hown hnm hlk hrt => ?_
  have N0 := Fr.nil n0
  have lt_P0 : @LT.lt Nat _ a1 (Array.size h0) := P0.lt
  have lt_P4 : @LT.lt Nat _ ar (Array.size h0) := P4.lt
  refine own_ru 2 [(.ref a1), (.ref a1)] X0 hx hby e8_0_2 rfl rfl ?_
  refine own_gF X0 hx hZ hown (host := "") (Or.inl (wd65 hw)) (Via.of (wd66 hw)) e0 P1 5 rfl (hb hby d8_2) rfl fun T168 X168 e168 => ?_
  refine own_ru 7 [(.int (mc + (1 : Int32))), (.ref a1)] X168 hx hby e8_5_2 rfl rfl ?_
  refine own_pF X168 hx hZ hown (host := "") (Or.inl (wd65 hw)) (Via.of (wd66 hw)) e168 P1 P0 (Or.inl (wd52 hw)) (wd33 hw) (ty := .int) (by decide) rfl rfl 10 rfl (hb hby d8_7) rfl fun T169 h169 X169 e169 W169 => ?_
  have F169 := Fld.same W169 P1
  have z169 := W169.size
  have KK169 : Keep h0 h169 [a1, ar] := (Keep.refl h0 [a1, ar]).wr W169 (Or.inl (by simp))
  have N169 := Fr.snoc X169 N0 (by omega)
  refine own_ru 13 [(.ref a1), (.ref ob), (.ref a1)] X169 hx hby e8_10_3 rfl rfl ?_
  have f170 := (Fld.other W169 P3 (Or.inr (slot_ne (Or.inl (wd55 hw)) (Or.inl (wd52 hw)) (by decide) (t := (.array (.object "java/lang/Object"))) (t' := .int) (by decide) (by decide))))
  refine own_gF X169 hx hZ hown (host := "") (Or.inl (wd54 hw)) Via.refl e169 f170 16 rfl (hb hby d8_13) rfl fun T171 X171 e171 => ?_
  refine own_ru 17 [(.ref a1), (.ref ar), (.ref ob), (.ref a1)] X171 hx hby e8_16_1 rfl rfl ?_
  have f172 := (Fld.other W169 P2 (Or.inr (slot_ne (Or.inl (wd68 hw)) (Or.inl (wd52 hw)) (by decide) (t := .int) (t' := .int) (by decide) (by decide))))
  refine own_gF X171 hx hZ hown (host := "") (Or.inl (wd67 hw)) Via.refl e171 f172 20 rfl (hb hby d8_17) rfl fun T173 X173 e173 => ?_
  have f174 := (Exa.wr W169 P0)
  have f175 := (P4.other W169 (own_ne (by omega)))
  have f176 := (Ins.wr W169 P5)
  refine own_cG X173 hx hZ hown (wd69 hw) (wd70 hw) (mvT hZ (wd72 hw)) (wd71 hw) (by decide) (wd73 hw) (wd34 hw) (rm9s1 l Z a0 hw [] a1 ob (mc + (1 : Int32)) ar kk vs h169 n0 (by omega) f174 F169 f172 f170 f175 f176 (by omega) (by omega) (by first | assumption | decide | omega) (by first | assumption | decide | omega) (by first | assumption | decide | omega)) e173 f174 [(.ref ob), (.ref ar), (.int (1 : Int32))] [] 23 0 (hb hby d8_20) rfl (by rw [hml]; rfl) rfl rfl (lenOf pd_5 rfl) rfl (by decide) fun v177 T177 Lc177 X177 hQ177 => ?_
  obtain ⟨rfl, N177q, K177, G177_0, G177_1, G177_2, G177_3, G177_4⟩ := hQ177
  have N177 := Fr.app N169 N177q
  have z177 := K177.1
  have KK177 : Keep h0 T177.heap [a1, ar] := KK169.trans K177 (allS (Or.inl (by simp)) (allS (Or.inl (by simp)) all0))
  have lt177_0 : @LT.lt Nat _ a1 (Array.size T177.heap) := G177_0.lt
  have lt177_4 : @LT.lt Nat _ ar (Array.size T177.heap) := G177_4.lt
  refine own_ru 24 [(.int (1 : Int32))] X177 hx hby e8_23_1 rfl rfl ?_
  have hq178 : Q8s1 Z a1 ob mc ar kk vs h0 n0 (some (.int (nar .boolean (1 : Int32)))) T177.heap _ := ⟨rfl, N177, KK177, G177_0, G177_1, G177_2, G177_3, G177_4⟩
  exact own_retN X177 hx hlk (t := .boolean) hrt (by simp) (hb hby d8_24) rfl hq178 (by decide) (by decide)
def Q8s2 (Z : State) (a1 : Addr) (ob : Addr) (mc : Int32) (ar : Addr) (kk : ClassId) (vs : List Value) (h0 : Heap) (n0 : Nat) (v : Option Value) (h : Heap) (L : List Loc) : Prop := v = some (.int (1 : Int32)) ∧ Fr n0 L ∧ Keep h0 h [a1, ar] ∧ ex4 Z h a1 ∧ fl5 Z h a1 (.int (mc + (1 : Int32))) ∧ fl6 Z h a1 (.int (3 : Int32)) ∧ fl7 Z h a1 (.ref ar) ∧ Arv Z h ar kk (.object "java/lang/Object") (10 : Int32) (vs.set ((2 : Int32)).toNatClampNeg (.ref ob)) .null
set_option maxRecDepth 65536 in
set_option maxHeartbeats 40000000 in
theorem rm8s2 (l : Launch) (Z : State) (a0 : Array Value) (hw : OW a0 Z) (ws : List Jvm.Cond) (a1 : Addr) (ob : Addr) (mc : Int32) (ar : Addr) (kk : ClassId) (vs : List Value) (h0 : Heap) (n0 : Nat) (Z0 : n0 ≤ h0.size) (P0 : ex4 Z h0 a1) (P1 : fl5 Z h0 a1 (.int mc)) (P2 : fl6 Z h0 a1 (.int (2 : Int32))) (P3 : fl7 Z h0 a1 (.ref ar)) (P4 : Arv Z h0 ar kk (.object "java/lang/Object") (10 : Int32) vs .null) (P5 : Ins Z h0 ob "java/lang/Object" true) (g_a1 : n0 ≤ a1) (g_ar : n0 ≤ ar) (hl : vs.length = 10) (hO : Ovr Z kk "java/lang/Object") (hne : @Ne Nat a1 ar) :
    own_Met l my8 jdk_38_method_25_code 2 (some .boolean) ws (own_rm 1 0 0 15) #[(.ref a1), (.ref ob)] Z h0 (Q8s2 Z a1 ob mc ar kk vs h0 n0) 0 0 := by
  refine own_body (plainFor_of_name pn_4) (fun m => by first | (simp [entryFrame, mkF, argsToLocals, Value.category]; done) | rfl) (Ls := #[.val (.ref a1), .val (.ref ob)]) fun p e s m below meth c s₁ X0 hx hby hml hZ e0 hown hnm hlk hrt => ?_
  have N0 := Fr.nil n0
  have lt_P0 : @LT.lt Nat _ a1 (Array.size h0) := P0.lt
  have lt_P4 : @LT.lt Nat _ ar (Array.size h0) := P4.lt
  refine own_ru 2 [(.ref a1), (.ref a1)] X0 hx hby e8_0_2 rfl rfl ?_
  refine own_gF X0 hx hZ hown (host := "") (Or.inl (wd65 hw)) (Via.of (wd66 hw)) e0 P1 5 rfl (hb hby d8_2) rfl fun T179 X179 e179 => ?_
  refine own_ru 7 [(.int (mc + (1 : Int32))), (.ref a1)] X179 hx hby e8_5_2 rfl rfl ?_
  refine own_pF X179 hx hZ hown (host := "") (Or.inl (wd65 hw)) (Via.of (wd66 hw)) e179 P1 P0 (Or.inl (wd52 hw)) (wd33 hw) (ty := .int) (by decide) rfl rfl 10 rfl (hb hby d8_7) rfl fun T180 h180 X180 e180 W180 => ?_
  have F180 := Fld.same W180 P1
  have z180 := W180.size
  have KK180 : Keep h0 h180 [a1, ar] := (Keep.refl h0 [a1, ar]).wr W180 (Or.inl (by simp))
  have N180 := Fr.snoc X180 N0 (by omega)
  refine own_ru 13 [(.ref a1), (.ref ob), (.ref a1)] X180 hx hby e8_10_3 rfl rfl ?_
  have f181 := (Fld.other W180 P3 (Or.inr (slot_ne (Or.inl (wd55 hw)) (Or.inl (wd52 hw)) (by decide) (t := (.array (.object "java/lang/Object"))) (t' := .int) (by decide) (by decide))))
  refine own_gF X180 hx hZ hown (host := "") (Or.inl (wd54 hw)) Via.refl e180 f181 16 rfl (hb hby d8_13) rfl fun T182 X182 e182 => ?_
  refine own_ru 17 [(.ref a1), (.ref ar), (.ref ob), (.ref a1)] X182 hx hby e8_16_1 rfl rfl ?_
  have f183 := (Fld.other W180 P2 (Or.inr (slot_ne (Or.inl (wd68 hw)) (Or.inl (wd52 hw)) (by decide) (t := .int) (t' := .int) (by decide) (by decide))))
  refine own_gF X182 hx hZ hown (host := "") (Or.inl (wd67 hw)) Via.refl e182 f183 20 rfl (hb hby d8_17) rfl fun T184 X184 e184 => ?_
  have f185 := (Exa.wr W180 P0)
  have f186 := (P4.other W180 (own_ne (by omega)))
  have f187 := (Ins.wr W180 P5)
  refine own_cG X184 hx hZ hown (wd69 hw) (wd70 hw) (mvT hZ (wd72 hw)) (wd71 hw) (by decide) (wd73 hw) (wd34 hw) (rm9s2 l Z a0 hw [] a1 ob (mc + (1 : Int32)) ar kk vs h180 n0 (by omega) f185 F180 f183 f181 f186 f187 (by omega) (by omega) (by first | assumption | decide | omega) (by first | assumption | decide | omega) (by first | assumption | decide | omega)) e184 f185 [(.ref ob), (.ref ar), (.int (2 : Int32))] [] 23 0 (hb hby d8_20) rfl (by rw [hml]; rfl) rfl rfl (lenOf pd_5 rfl) rfl (by decide) fun v188 T188 Lc188 X188 hQ188 => ?_
  obtain ⟨rfl, N188q, K188, G188_0, G188_1, G188_2, G188_3, G188_4⟩ := hQ188
  have N188 := Fr.app N180 N188q
  have z188 := K188.1
  have KK188 : Keep h0 T188.heap [a1, ar] := KK180.trans K188 (allS (Or.inl (by simp)) (allS (Or.inl (by simp)) all0))
  have lt188_0 : @LT.lt Nat _ a1 (Array.size T188.heap) := G188_0.lt
  have lt188_4 : @LT.lt Nat _ ar (Array.size T188.heap) := G188_4.lt
  refine own_ru 24 [(.int (1 : Int32))] X188 hx hby e8_23_1 rfl rfl ?_
  have hq189 : Q8s2 Z a1 ob mc ar kk vs h0 n0 (some (.int (nar .boolean (1 : Int32)))) T188.heap _ := ⟨rfl, N188, KK188, G188_0, G188_1, G188_2, G188_3, G188_4⟩
  exact own_retN X188 hx hlk (t := .boolean) hrt (by simp) (hb hby d8_24) rfl hq189 (by decide) (by decide)
abbrev my14 : MethodName := (⟨"java/util/ArrayList", "isEmpty", "()Z"⟩ : MethodName)
theorem d14_1 : decode jdk_38_method_9_code 1 = .ok (.getfield 48, 3) := by decide +kernel
theorem d14_4 : decode jdk_38_method_9_code 4 = .ok (.ifCond .ne 7, 3) := by decide +kernel
theorem d14_8 : decode jdk_38_method_9_code 8 = .ok (.goto 4, 3) := by decide +kernel
theorem d14_12 : decode jdk_38_method_9_code 12 = .ok (.ireturn, 1) := by decide +kernel
theorem e14_0_1 : own_dec jdk_38_method_9_code 0 [(.aload_n 0, 1)] = true := by decide +kernel
theorem e14_7_1 : own_dec jdk_38_method_9_code 7 [(.iconst 1, 1)] = true := by decide +kernel
theorem e14_11_1 : own_dec jdk_38_method_9_code 11 [(.iconst 0, 1)] = true := by decide +kernel
def Q14 (Z : State) (a1 : Addr) (nn : Int32) (h0 : Heap) (n0 : Nat) (v : Option Value) (h : Heap) (L : List Loc) : Prop := own_bool (nn = (0 : Int32)) v ∧ Fr n0 L ∧ h = h0
set_option maxRecDepth 65536 in
set_option maxHeartbeats 40000000 in
theorem rm14 (l : Launch) (Z : State) (a0 : Array Value) (hw : OW a0 Z) (ws : List Jvm.Cond) (a1 : Addr) (nn : Int32) (h0 : Heap) (n0 : Nat) (Z0 : n0 ≤ h0.size) (P0 : fl6 Z h0 a1 (.int nn)) :
    own_Met l my14 jdk_38_method_9_code 1 (some .boolean) ws (own_rm 0 0 0 0) #[(.ref a1)] Z h0 (Q14 Z a1 nn h0 n0) 0 0 := by
  refine own_body (plainFor_of_name pn_4) (fun m => by first | (simp [entryFrame, mkF, argsToLocals, Value.category]; done) | rfl) (Ls := #[.val (.ref a1)]) fun p e s m below meth c s₁ X0 hx hby hml hZ e0 hown hnm hlk hrt => ?_
  have N0 := Fr.nil n0
  have lt_P0 : @LT.lt Nat _ a1 (Array.size h0) := P0.lt
  refine own_ru 1 [(.ref a1)] X0 hx hby e14_0_1 rfl rfl ?_
  refine own_gF X0 hx hZ hown (host := "") (Or.inl (wd67 hw)) Via.refl e0 P0 4 rfl (hb hby d14_1) rfl fun T190 X190 e190 => ?_
  by_cases hc4 : nn = (0 : Int32)
  · refine own_iN 7 X190 hx (hb hby d14_4) rfl ((if0 _ _).trans (teq hc4).2) rfl ?_
    refine own_ru 8 [(.int (1 : Int32))] X190 hx hby e14_7_1 rfl rfl ?_
    refine own_go 12 X190 hx (hb hby d14_8) (by decide) (by decide) ?_
    have hq191 : Q14 Z a1 nn h0 n0 (some (.int (nar .boolean (1 : Int32)))) h0 _ := ⟨Or.inl ⟨rfl, hc4⟩, N0, rfl⟩
    exact own_retN X190 hx hlk (t := .boolean) hrt (by simp) (hb hby d14_12) e190 hq191 (by decide) (by decide)
  · refine own_iY 11 X190 hx (hb hby d14_4) rfl ((if0 _ _).trans (feq hc4).2) (by decide) (by decide) ?_
    refine own_ru 12 [(.int (0 : Int32))] X190 hx hby e14_11_1 rfl rfl ?_
    have hq192 : Q14 Z a1 nn h0 n0 (some (.int (nar .boolean (0 : Int32)))) h0 _ := ⟨Or.inr ⟨rfl, hc4⟩, N0, rfl⟩
    exact own_retN X190 hx hlk (t := .boolean) hrt (by simp) (hb hby d14_12) e190 hq192 (by decide) (by decide)
abbrev my15 : MethodName := (⟨"java/util/ArrayList", "size", "()I"⟩ : MethodName)
theorem d15_1 : decode jdk_38_method_8_code 1 = .ok (.getfield 48, 3) := by decide +kernel
theorem d15_4 : decode jdk_38_method_8_code 4 = .ok (.ireturn, 1) := by decide +kernel
theorem e15_0_1 : own_dec jdk_38_method_8_code 0 [(.aload_n 0, 1)] = true := by decide +kernel
def Q15 (Z : State) (a1 : Addr) (nn : Int32) (h0 : Heap) (n0 : Nat) (v : Option Value) (h : Heap) (L : List Loc) : Prop := v = some (.int nn) ∧ Fr n0 L ∧ h = h0
set_option maxRecDepth 65536 in
set_option maxHeartbeats 40000000 in
theorem rm15 (l : Launch) (Z : State) (a0 : Array Value) (hw : OW a0 Z) (ws : List Jvm.Cond) (a1 : Addr) (nn : Int32) (h0 : Heap) (n0 : Nat) (Z0 : n0 ≤ h0.size) (P0 : fl6 Z h0 a1 (.int nn)) :
    own_Met l my15 jdk_38_method_8_code 1 (some .int) ws (own_rm 0 0 0 0) #[(.ref a1)] Z h0 (Q15 Z a1 nn h0 n0) 0 0 := by
  refine own_body (plainFor_of_name pn_4) (fun m => by first | (simp [entryFrame, mkF, argsToLocals, Value.category]; done) | rfl) (Ls := #[.val (.ref a1)]) fun p e s m below meth c s₁ X0 hx hby hml hZ e0 hown hnm hlk hrt => ?_
  have N0 := Fr.nil n0
  have lt_P0 : @LT.lt Nat _ a1 (Array.size h0) := P0.lt
  refine own_ru 1 [(.ref a1)] X0 hx hby e15_0_1 rfl rfl ?_
  refine own_gF X0 hx hZ hown (host := "") (Or.inl (wd67 hw)) Via.refl e0 P0 4 rfl (hb hby d15_1) rfl fun T193 X193 e193 => ?_
  have hq194 : Q15 Z a1 nn h0 n0 (some (.int nn)) h0 _ := ⟨rfl, N0, rfl⟩
  exact own_retI X193 hx hlk hrt (hb hby d15_4) e193 hq194 (by decide) (by decide)
abbrev my18 : MethodName := (⟨"jdk/internal/util/Preconditions", "checkIndex", "(IILjava/util/function/BiFunction;)I"⟩ : MethodName)
theorem d18_1 : decode jdk_41_method_11_code 1 = .ok (.ifCond .lt 8, 3) := by decide +kernel
theorem d18_6 : decode jdk_41_method_11_code 6 = .ok (.if_icmp .lt 10, 3) := by decide +kernel
theorem d18_17 : decode jdk_41_method_11_code 17 = .ok (.ireturn, 1) := by decide +kernel
theorem e18_0_1 : own_dec jdk_41_method_11_code 0 [(.iload_n 0, 1)] = true := by decide +kernel
theorem e18_4_2 : own_dec jdk_41_method_11_code 4 [(.iload_n 0, 1), (.iload_n 1, 1)] = true := by decide +kernel
theorem e18_16_1 : own_dec jdk_41_method_11_code 16 [(.iload_n 0, 1)] = true := by decide +kernel
theorem pn_5 : plainName "jdk/internal/util/Preconditions" = true := by first | (simp [plainName, overriddenIn]; done) | decide +kernel
def Q18 (Z : State) (j1 : Int32) (nn : Int32) (h0 : Heap) (n0 : Nat) (v : Option Value) (h : Heap) (L : List Loc) : Prop := v = some (.int j1) ∧ Fr n0 L ∧ h = h0
set_option maxRecDepth 65536 in
set_option maxHeartbeats 40000000 in
theorem rm18 (l : Launch) (Z : State) (a0 : Array Value) (hw : OW a0 Z) (ws : List Jvm.Cond) (j1 : Int32) (nn : Int32) (h0 : Heap) (n0 : Nat) (Z0 : n0 ≤ h0.size) (hi0 : ¬ j1 < (0 : Int32)) (hi1 : j1 < nn) :
    own_Met l my18 jdk_41_method_11_code 3 (some .int) ws (own_rm 0 0 0 0) #[(.int j1), (.int nn), .null] Z h0 (Q18 Z j1 nn h0 n0) 0 0 := by
  refine own_body (plainFor_of_name pn_5) (fun m => by first | (simp [entryFrame, mkF, argsToLocals, Value.category]; done) | rfl) (Ls := #[.val (.int j1), .val (.int nn), .val .null]) fun p e s m below meth c s₁ X0 hx hby hml hZ e0 hown hnm hlk hrt => ?_
  have N0 := Fr.nil n0
  refine own_ru 1 [(.int j1)] X0 hx hby e18_0_1 rfl rfl ?_
  refine own_iN 4 X0 hx (hb hby d18_1) rfl ((if0 _ _).trans (flt hi0).1) rfl ?_
  refine own_ru 6 [(.int nn), (.int j1)] X0 hx hby e18_4_2 rfl rfl ?_
  refine own_kY 16 X0 hx (hb hby d18_6) rfl (tlt hi1).1 (by decide) (by decide) ?_
  refine own_ru 17 [(.int j1)] X0 hx hby e18_16_1 rfl rfl ?_
  have hq195 : Q18 Z j1 nn h0 n0 (some (.int j1)) h0 _ := ⟨rfl, N0, rfl⟩
  exact own_retI X0 hx hlk hrt (hb hby d18_17) e0 hq195 (by decide) (by decide)
abbrev my17 : MethodName := (⟨"java/util/Objects", "checkIndex", "(II)I"⟩ : MethodName)
theorem d17_3 : decode jdk_31_method_17_code 3 = .ok (.invokestatic 105, 3) := by decide +kernel
theorem d17_6 : decode jdk_31_method_17_code 6 = .ok (.ireturn, 1) := by decide +kernel
theorem e17_0_3 : own_dec jdk_31_method_17_code 0 [(.iload_n 0, 1), (.iload_n 1, 1), (.aconst_null, 1)] = true := by decide +kernel
theorem pn_6 : plainName "java/util/Objects" = true := by first | (simp [plainName, overriddenIn]; done) | decide +kernel
theorem pd_6 : parseMethodDescriptor "(IILjava/util/function/BiFunction;)I" = some ⟨[.int, .int, (.object "java/util/function/BiFunction")], some .int⟩ := by decide +kernel
def Q17 (Z : State) (j1 : Int32) (nn : Int32) (h0 : Heap) (n0 : Nat) (v : Option Value) (h : Heap) (L : List Loc) : Prop := v = some (.int j1) ∧ Fr n0 L ∧ h = h0
set_option maxRecDepth 65536 in
set_option maxHeartbeats 40000000 in
theorem rm17 (l : Launch) (Z : State) (a0 : Array Value) (hw : OW a0 Z) (ws : List Jvm.Cond) (j1 : Int32) (nn : Int32) (h0 : Heap) (n0 : Nat) (Z0 : n0 ≤ h0.size) (hi0 : ¬ j1 < (0 : Int32)) (hi1 : j1 < nn) :
    own_Met l my17 jdk_31_method_17_code 2 (some .int) ws (own_rm 1 0 0 14) #[(.int j1), (.int nn)] Z h0 (Q17 Z j1 nn h0 n0) 0 0 := by
  refine own_body (plainFor_of_name pn_6) (fun m => by first | (simp [entryFrame, mkF, argsToLocals, Value.category]; done) | rfl) (Ls := #[.val (.int j1), .val (.int nn)]) fun p e s m below meth c s₁ X0 hx hby hml hZ e0 hown hnm hlk hrt => ?_
  have N0 := Fr.nil n0
  refine own_ru 3 [.null, (.int nn), (.int j1)] X0 hx hby e17_0_3 rfl rfl ?_
  refine own_cS X0 hx hZ hown (wd134 hw) (wd135 hw) (by decide) (wd137 hw) (wd136 hw) (rm18 l Z a0 hw [] j1 nn h0 n0 (by omega) (by first | assumption | decide | omega) (by first | assumption | decide | omega)) e0  [(.int j1), (.int nn), .null] [] 6 0 (hb hby d17_3) rfl (by rw [hml]; rfl) rfl rfl (lenOf pd_6 rfl) rfl (by decide) fun v196 T196 Lc196 X196 hQ196 => ?_
  obtain ⟨rfl, N196q, e196⟩ := hQ196
  have N196 := Fr.app N0 N196q
  have hq197 : Q17 Z j1 nn h0 n0 (some (.int j1)) h0 _ := ⟨rfl, N196, rfl⟩
  exact own_retI X196 hx hlk hrt (hb hby d17_6) e196 hq197 (by decide) (by decide)
abbrev my19 : MethodName := (⟨"java/util/ArrayList", "elementData", "(I)Ljava/lang/Object;"⟩ : MethodName)
theorem d19_1 : decode jdk_38_method_18_code 1 = .ok (.getfield 9, 3) := by decide +kernel
theorem d19_5 : decode jdk_38_method_18_code 5 = .ok (.aaload, 1) := by decide +kernel
theorem d19_6 : decode jdk_38_method_18_code 6 = .ok (.areturn, 1) := by decide +kernel
theorem e19_0_1 : own_dec jdk_38_method_18_code 0 [(.aload_n 0, 1)] = true := by decide +kernel
theorem e19_4_1 : own_dec jdk_38_method_18_code 4 [(.iload_n 1, 1)] = true := by decide +kernel
def Q19 (Z : State) (a1 : Addr) (j1 : Int32) (ar : Addr) (kk : ClassId) (vs : List Value) (ob : Addr) (h0 : Heap) (n0 : Nat) (v : Option Value) (h : Heap) (L : List Loc) : Prop := v = some (.ref ob) ∧ Fr n0 L ∧ h = h0
set_option maxRecDepth 65536 in
set_option maxHeartbeats 40000000 in
theorem rm19 (l : Launch) (Z : State) (a0 : Array Value) (hw : OW a0 Z) (ws : List Jvm.Cond) (a1 : Addr) (j1 : Int32) (ar : Addr) (kk : ClassId) (vs : List Value) (ob : Addr) (h0 : Heap) (n0 : Nat) (Z0 : n0 ≤ h0.size) (P0 : fl7 Z h0 a1 (.ref ar)) (P1 : Arv Z h0 ar kk (.object "java/lang/Object") (10 : Int32) vs .null) (hi2 : ¬ j1 < (0 : Int32) ∧ j1 < (10 : Int32)) (hv : vs.getD j1.toNatClampNeg .null = .ref ob) :
    own_Met l my19 jdk_38_method_18_code 2 (some (.object "java/lang/Object")) ws (own_rm 0 0 0 0) #[(.ref a1), (.int j1)] Z h0 (Q19 Z a1 j1 ar kk vs ob h0 n0) 0 0 := by
  refine own_body (plainFor_of_name pn_4) (fun m => by first | (simp [entryFrame, mkF, argsToLocals, Value.category]; done) | rfl) (Ls := #[.val (.ref a1), .val (.int j1)]) fun p e s m below meth c s₁ X0 hx hby hml hZ e0 hown hnm hlk hrt => ?_
  have N0 := Fr.nil n0
  have lt_P0 : @LT.lt Nat _ a1 (Array.size h0) := P0.lt
  have lt_P1 : @LT.lt Nat _ ar (Array.size h0) := P1.lt
  refine own_ru 1 [(.ref a1)] X0 hx hby e19_0_1 rfl rfl ?_
  refine own_gF X0 hx hZ hown (host := "") (Or.inl (wd54 hw)) Via.refl e0 P0 4 rfl (hb hby d19_1) rfl fun T198 X198 e198 => ?_
  refine own_ru 5 [(.int j1), (.ref ar)] X198 hx hby e19_4_1 rfl rfl ?_
  obtain ⟨cl199, Ar199, q199, S199, N199z, Hs199, G199⟩ := id P1
  have hin199 : ¬ (j1 < 0 ∨ cl199.slots.size ≤ (j1).toNatClampNeg) := inb_of S199 hi2
  have hat199 : cl199.slots[(j1).toNatClampNeg]? = some (.ref ob) := Hs199.at hin199 hv
  refine own_st 6 [(.ref ob)] (X198.aaload hx (j := j1) (v := (.ref ob)) (by rw [e198]; exact Ar199.1) (State.isArrayOf_alike hZ.alike Ar199.2.1) rfl Ar199.2.2 hin199 hat199 (g := (mkF m 5 #[.val (.ref a1), .val (.int j1)] [(.int j1), (.ref ar)])) rfl rfl (hb hby d19_5)) ?_
  have hq200 : Q19 Z a1 j1 ar kk vs ob h0 n0 (some (.ref ob)) h0 _ := ⟨rfl, N0, rfl⟩
  exact own_retR X198 hx hlk (w := (.ref ob)) rfl hrt rfl (hb hby d19_6) e198 hq200 (by decide) (by decide)
abbrev my16 : MethodName := (⟨"java/util/ArrayList", "get", "(I)Ljava/lang/Object;"⟩ : MethodName)
theorem d16_2 : decode jdk_38_method_20_code 2 = .ok (.getfield 48, 3) := by decide +kernel
theorem d16_5 : decode jdk_38_method_20_code 5 = .ok (.invokestatic 118, 3) := by decide +kernel
theorem d16_11 : decode jdk_38_method_20_code 11 = .ok (.invokevirtual 123, 3) := by decide +kernel
theorem d16_14 : decode jdk_38_method_20_code 14 = .ok (.areturn, 1) := by decide +kernel
theorem e16_0_2 : own_dec jdk_38_method_20_code 0 [(.iload_n 1, 1), (.aload_n 0, 1)] = true := by decide +kernel
theorem e16_8_3 : own_dec jdk_38_method_20_code 8 [(.pop, 1), (.aload_n 0, 1), (.iload_n 1, 1)] = true := by decide +kernel
theorem pd_7 : parseMethodDescriptor "(I)Ljava/lang/Object;" = some ⟨[.int], some (.object "java/lang/Object")⟩ := by decide +kernel
def Q16 (Z : State) (a1 : Addr) (j1 : Int32) (ar : Addr) (kk : ClassId) (vs : List Value) (ob : Addr) (nn : Int32) (h0 : Heap) (n0 : Nat) (v : Option Value) (h : Heap) (L : List Loc) : Prop := v = some (.ref ob) ∧ Fr n0 L ∧ h = h0
set_option maxRecDepth 65536 in
set_option maxHeartbeats 40000000 in
theorem rm16 (l : Launch) (Z : State) (a0 : Array Value) (hw : OW a0 Z) (ws : List Jvm.Cond) (a1 : Addr) (j1 : Int32) (ar : Addr) (kk : ClassId) (vs : List Value) (ob : Addr) (nn : Int32) (h0 : Heap) (n0 : Nat) (Z0 : n0 ≤ h0.size) (P0 : ex4 Z h0 a1) (P1 : fl6 Z h0 a1 (.int nn)) (P2 : fl7 Z h0 a1 (.ref ar)) (P3 : Arv Z h0 ar kk (.object "java/lang/Object") (10 : Int32) vs .null) (hi0 : ¬ j1 < (0 : Int32)) (hi1 : j1 < nn) (hi2 : ¬ j1 < (0 : Int32) ∧ j1 < (10 : Int32)) (hv : vs.getD j1.toNatClampNeg .null = .ref ob) :
    own_Met l my16 jdk_38_method_20_code 2 (some (.object "java/lang/Object")) ws (own_rm 2 0 0 27) #[(.ref a1), (.int j1)] Z h0 (Q16 Z a1 j1 ar kk vs ob nn h0 n0) 0 0 := by
  refine own_body (plainFor_of_name pn_4) (fun m => by first | (simp [entryFrame, mkF, argsToLocals, Value.category]; done) | rfl) (Ls := #[.val (.ref a1), .val (.int j1)]) fun p e s m below meth c s₁ X0 hx hby hml hZ e0 hown hnm hlk hrt => ?_
  have N0 := Fr.nil n0
  have lt_P0 : @LT.lt Nat _ a1 (Array.size h0) := P0.lt
  have lt_P3 : @LT.lt Nat _ ar (Array.size h0) := P3.lt
  refine own_ru 2 [(.ref a1), (.int j1)] X0 hx hby e16_0_2 rfl rfl ?_
  refine own_gF X0 hx hZ hown (host := "") (Or.inl (wd67 hw)) Via.refl e0 P1 5 rfl (hb hby d16_2) rfl fun T201 X201 e201 => ?_
  refine own_cS X201 hx hZ hown (wd130 hw) (wd131 hw) (by decide) (wd133 hw) (wd132 hw) (rm17 l Z a0 hw [] j1 nn h0 n0 (by omega) (by first | assumption | decide | omega) (by first | assumption | decide | omega)) e201  [(.int j1), (.int nn)] [] 8 0 (hb hby d16_5) rfl (by rw [hml]; rfl) rfl rfl (lenOf pd_2 rfl) rfl (by decide) fun v202 T202 Lc202 X202 hQ202 => ?_
  obtain ⟨rfl, N202q, e202⟩ := hQ202
  have N202 := Fr.app N0 N202q
  refine own_ru 11 [(.int j1), (.ref a1)] X202 hx hby e16_8_3 rfl rfl ?_
  refine own_cV X202 hx hZ hown (wd138 hw) (wd139 hw) (notFace_of_selects (args := #[]) (mvT hZ (wd141 hw))) (wd141 hw) (wd140 hw) (by decide) (wd142 hw) (wd34 hw) (rm19 l Z a0 hw [] a1 j1 ar kk vs ob h0 n0 (by omega) P2 P3 (by first | assumption | decide | omega) (by first | assumption | decide | omega)) e202 P0 [(.int j1)] [] 14 0 (hb hby d16_11) rfl (by rw [hml]; rfl) rfl rfl (lenOf pd_7 rfl) rfl (by decide) fun v203 T203 Lc203 X203 hQ203 => ?_
  obtain ⟨rfl, N203q, e203⟩ := hQ203
  have N203 := Fr.app N202 N203q
  have hq204 : Q16 Z a1 j1 ar kk vs ob nn h0 n0 (some (.ref ob)) h0 _ := ⟨rfl, N203, rfl⟩
  exact own_retR X203 hx hlk (w := (.ref ob)) rfl hrt rfl (hb hby d16_14) e203 hq204 (by decide) (by decide)
abbrev my20 : MethodName := (⟨"com/example/tariff/tariff/SupplyVoltages$Voltage", "<init>", "(Ljava/math/BigInteger;Lcom/example/tariff/tariff/VoltageClass;Ljava/math/BigInteger;Ljava/math/BigInteger;)V"⟩ : MethodName)
theorem d20_1 : decode prog_38_method_1_code 1 = .ok (.invokespecial 1, 3) := by decide +kernel
theorem d20_5 : decode prog_38_method_1_code 5 = .ok (.aload_n 1, 1) := by decide +kernel
theorem d20_6 : decode prog_38_method_1_code 6 = .ok (.putfield 7, 3) := by decide +kernel
theorem d20_10 : decode prog_38_method_1_code 10 = .ok (.aload_n 2, 1) := by decide +kernel
theorem d20_11 : decode prog_38_method_1_code 11 = .ok (.putfield 13, 3) := by decide +kernel
theorem d20_15 : decode prog_38_method_1_code 15 = .ok (.aload_n 3, 1) := by decide +kernel
theorem d20_16 : decode prog_38_method_1_code 16 = .ok (.putfield 17, 3) := by decide +kernel
theorem d20_20 : decode prog_38_method_1_code 20 = .ok (.aload 4, 2) := by decide +kernel
theorem d20_22 : decode prog_38_method_1_code 22 = .ok (.putfield 20, 3) := by decide +kernel
theorem d20_25 : decode prog_38_method_1_code 25 = .ok (.return_, 1) := by decide +kernel
theorem e20_0_1 : own_dec prog_38_method_1_code 0 [(.aload_n 0, 1)] = true := by decide +kernel
theorem e20_4_1 : own_dec prog_38_method_1_code 4 [(.aload_n 0, 1)] = true := by decide +kernel
theorem e20_9_1 : own_dec prog_38_method_1_code 9 [(.aload_n 0, 1)] = true := by decide +kernel
theorem e20_14_1 : own_dec prog_38_method_1_code 14 [(.aload_n 0, 1)] = true := by decide +kernel
theorem e20_19_1 : own_dec prog_38_method_1_code 19 [(.aload_n 0, 1)] = true := by decide +kernel
theorem pn_7 : plainName "com/example/tariff/tariff/SupplyVoltages$Voltage" = true := by first | (simp [plainName, overriddenIn]; done) | decide +kernel
def Q20 (Z : State) (a1 : Addr) (u0 : Value) (u1 : Value) (u2 : Value) (u3 : Value) (h0 : Heap) (n0 : Nat) (v : Option Value) (h : Heap) (L : List Loc) : Prop := v = none ∧ Fr n0 L ∧ Keep h0 h [a1] ∧ ex8 Z h a1 ∧ fl9 Z h a1 u0 ∧ fl10 Z h a1 u1 ∧ fl11 Z h a1 u2 ∧ fl12 Z h a1 u3
set_option maxRecDepth 65536 in
set_option maxHeartbeats 40000000 in
theorem rm20 (l : Launch) (Z : State) (a0 : Array Value) (hw : OW a0 Z) (ws : List Jvm.Cond) (a1 : Addr) (u0 : Value) (u1 : Value) (u2 : Value) (u3 : Value) (h0 : Heap) (n0 : Nat) (Z0 : n0 ≤ h0.size) (P0 : ex8 Z h0 a1) (P1 : fl9 Z h0 a1 .null) (P2 : fl10 Z h0 a1 .null) (P3 : fl11 Z h0 a1 .null) (P4 : fl12 Z h0 a1 .null) (g_a1 : n0 ≤ a1) (h_u0 : u0.isRef = true) (h_u1 : u1.isRef = true) (h_u2 : u2.isRef = true) (h_u3 : u3.isRef = true) :
    own_Met l my20 prog_38_method_1_code 5 none ws (own_rm 1 0 0 12) #[(.ref a1), u0, u1, u2, u3] Z h0 (Q20 Z a1 u0 u1 u2 u3 h0 n0) 0 0 := by
  refine own_body (plainFor_of_name pn_7) (fun m => by first | (simp [entryFrame, mkF, argsToLocals, own_catR, own_catI, own_catJ, own_catN, own_cat1 h_u0, own_cat1 h_u1, own_cat1 h_u2, own_cat1 h_u3]; done) | rfl) (Ls := #[.val (.ref a1), .val u0, .val u1, .val u2, .val u3]) fun p e s m below meth c s₁ X0 hx hby hml hZ e0 hown hnm hlk hrt => ?_
  have N0 := Fr.nil n0
  have lt_P0 : @LT.lt Nat _ a1 (Array.size h0) := P0.lt
  refine own_ru 1 [(.ref a1)] X0 hx hby e20_0_1 rfl rfl ?_
  refine own_iO X0 hx hZ hown (wd149 hw) (wd22 hw) (wd23 hw) e0 4 0 (by rw [hml]; rfl) rfl (hb hby d20_1) rfl (by decide) rfl (by decide) fun T205 X205 e205 => ?_
  refine own_ru 5 [(.ref a1)] X205 hx hby e20_4_1 rfl rfl ?_
  refine own_st 6 [u0, (.ref a1)] (fun t k => XS.aloadN X205.here hx rfl (hb hby d20_5) rfl h_u0  k) ?_
  refine own_pF X205 hx hZ hown (host := "") (Or.inl (wd150 hw)) Via.refl e205 P1 P0 (Or.inr ⟨(wd151 hw), rfl, hnm⟩) (wd120 hw) (ty := (.object "java/math/BigInteger")) (by decide) rfl (own_fitR h_u0) 9 rfl (hb hby d20_6) rfl fun T206 h206 X206 e206 W206 => ?_
  have F206 := Fld.same W206 P1
  have z206 := W206.size
  have KK206 : Keep h0 h206 [a1] := (Keep.refl h0 [a1]).wr W206 (Or.inl (by simp))
  have N206 := Fr.snoc X206 N0 (by omega)
  refine own_ru 10 [(.ref a1)] X206 hx hby e20_9_1 rfl rfl ?_
  refine own_st 11 [u1, (.ref a1)] (fun t k => XS.aloadN X206.here hx rfl (hb hby d20_10) rfl h_u1  k) ?_
  have f207 := (Exa.wr W206 P0)
  have f208 := (Fld.other W206 P2 (Or.inr (slot_ne (Or.inr (wd153 hw)) (Or.inr (wd151 hw)) (by decide) (t := (.object "com/example/tariff/tariff/VoltageClass")) (t' := (.object "java/math/BigInteger")) (by decide) (by decide))))
  refine own_pF X206 hx hZ hown (host := "") (Or.inl (wd152 hw)) Via.refl e206 f208 f207 (Or.inr ⟨(wd153 hw), rfl, hnm⟩) (wd120 hw) (ty := (.object "com/example/tariff/tariff/VoltageClass")) (by decide) rfl (own_fitR h_u1) 14 rfl (hb hby d20_11) rfl fun T209 h209 X209 e209 W209 => ?_
  have F209 := Fld.same W209 f208
  have z209 := W209.size
  have KK209 : Keep h0 h209 [a1] := KK206.wr W209 (Or.inl (by simp))
  have N209 := Fr.snoc X209 N206 (by omega)
  refine own_ru 15 [(.ref a1)] X209 hx hby e20_14_1 rfl rfl ?_
  refine own_st 16 [u2, (.ref a1)] (fun t k => XS.aloadN X209.here hx rfl (hb hby d20_15) rfl h_u2  k) ?_
  have f210 := (Exa.wr W209 f207)
  have f211 := (Fld.other W209 (Fld.other W206 P3 (Or.inr (slot_ne (Or.inr (wd155 hw)) (Or.inr (wd151 hw)) (by decide) (t := (.object "java/math/BigInteger")) (t' := (.object "java/math/BigInteger")) (by decide) (by decide)))) (Or.inr (slot_ne (Or.inr (wd155 hw)) (Or.inr (wd153 hw)) (by decide) (t := (.object "java/math/BigInteger")) (t' := (.object "com/example/tariff/tariff/VoltageClass")) (by decide) (by decide))))
  refine own_pF X209 hx hZ hown (host := "") (Or.inl (wd154 hw)) Via.refl e209 f211 f210 (Or.inr ⟨(wd155 hw), rfl, hnm⟩) (wd120 hw) (ty := (.object "java/math/BigInteger")) (by decide) rfl (own_fitR h_u2) 19 rfl (hb hby d20_16) rfl fun T212 h212 X212 e212 W212 => ?_
  have F212 := Fld.same W212 f211
  have z212 := W212.size
  have KK212 : Keep h0 h212 [a1] := KK209.wr W212 (Or.inl (by simp))
  have N212 := Fr.snoc X212 N209 (by omega)
  refine own_ru 20 [(.ref a1)] X212 hx hby e20_19_1 rfl rfl ?_
  refine own_st 22 [u3, (.ref a1)] (fun t k => XS.aload X212.here hx rfl (hb hby d20_20) rfl h_u3  k) ?_
  have f213 := (Exa.wr W212 f210)
  have f214 := (Fld.other W212 (Fld.other W209 (Fld.other W206 P4 (Or.inr (slot_ne (Or.inr (wd157 hw)) (Or.inr (wd151 hw)) (by decide) (t := (.object "java/math/BigInteger")) (t' := (.object "java/math/BigInteger")) (by decide) (by decide)))) (Or.inr (slot_ne (Or.inr (wd157 hw)) (Or.inr (wd153 hw)) (by decide) (t := (.object "java/math/BigInteger")) (t' := (.object "com/example/tariff/tariff/VoltageClass")) (by decide) (by decide)))) (Or.inr (slot_ne (Or.inr (wd157 hw)) (Or.inr (wd155 hw)) (by decide) (t := (.object "java/math/BigInteger")) (t' := (.object "java/math/BigInteger")) (by decide) (by decide))))
  refine own_pF X212 hx hZ hown (host := "") (Or.inl (wd156 hw)) Via.refl e212 f214 f213 (Or.inr ⟨(wd157 hw), rfl, hnm⟩) (wd120 hw) (ty := (.object "java/math/BigInteger")) (by decide) rfl (own_fitR h_u3) 25 rfl (hb hby d20_22) rfl fun T215 h215 X215 e215 W215 => ?_
  have F215 := Fld.same W215 f214
  have z215 := W215.size
  have KK215 : Keep h0 h215 [a1] := KK212.wr W215 (Or.inl (by simp))
  have N215 := Fr.snoc X215 N212 (by omega)
  have f217 := (Exa.wr W215 f213)
  have f218 := (Fld.other W215 (Fld.other W212 (Fld.other W209 F206 (Or.inr (slot_ne (Or.inr (wd151 hw)) (Or.inr (wd153 hw)) (by decide) (t := (.object "java/math/BigInteger")) (t' := (.object "com/example/tariff/tariff/VoltageClass")) (by decide) (by decide)))) (Or.inr (slot_ne (Or.inr (wd151 hw)) (Or.inr (wd155 hw)) (by decide) (t := (.object "java/math/BigInteger")) (t' := (.object "java/math/BigInteger")) (by decide) (by decide)))) (Or.inr (slot_ne (Or.inr (wd151 hw)) (Or.inr (wd157 hw)) (by decide) (t := (.object "java/math/BigInteger")) (t' := (.object "java/math/BigInteger")) (by decide) (by decide))))
  have f219 := (Fld.other W215 (Fld.other W212 F209 (Or.inr (slot_ne (Or.inr (wd153 hw)) (Or.inr (wd155 hw)) (by decide) (t := (.object "com/example/tariff/tariff/VoltageClass")) (t' := (.object "java/math/BigInteger")) (by decide) (by decide)))) (Or.inr (slot_ne (Or.inr (wd153 hw)) (Or.inr (wd157 hw)) (by decide) (t := (.object "com/example/tariff/tariff/VoltageClass")) (t' := (.object "java/math/BigInteger")) (by decide) (by decide))))
  have f220 := (Fld.other W215 F212 (Or.inr (slot_ne (Or.inr (wd155 hw)) (Or.inr (wd157 hw)) (by decide) (t := (.object "java/math/BigInteger")) (t' := (.object "java/math/BigInteger")) (by decide) (by decide))))
  have hq216 : Q20 Z a1 u0 u1 u2 u3 h0 n0 none h215 _ := ⟨rfl, N215, KK215, f217, f218, f219, f220, F215⟩
  exact own_retV X215 hx hlk hrt (hb hby d20_25) e215 hq216 (by decide) (by decide)
abbrev my13 : MethodName := (⟨"com/example/tariff/tariff/SupplyVoltages", "<init>", "(Ljava/util/List;Ljava/util/List;Ljava/util/List;)V"⟩ : MethodName)
theorem d13_1 : decode prog_37_method_1_code 1 = .ok (.invokespecial 1, 3) := by decide +kernel
theorem d13_5 : decode prog_37_method_1_code 5 = .ok (.new 7, 3) := by decide +kernel
theorem d13_9 : decode prog_37_method_1_code 9 = .ok (.invokespecial 9, 3) := by decide +kernel
theorem d13_12 : decode prog_37_method_1_code 12 = .ok (.putfield 10, 3) := by decide +kernel
theorem d13_16 : decode prog_37_method_1_code 16 = .ok (.invokeinterface 16 1, 5) := by decide +kernel
theorem d13_21 : decode prog_37_method_1_code 21 = .ok (.ifCond .ne 50, 3) := by decide +kernel
theorem d13_25 : decode prog_37_method_1_code 25 = .ok (.invokeinterface 22 1, 5) := by decide +kernel
theorem d13_31 : decode prog_37_method_1_code 31 = .ok (.invokeinterface 22 1, 5) := by decide +kernel
theorem d13_36 : decode prog_37_method_1_code 36 = .ok (.if_icmp .ne 35, 3) := by decide +kernel
theorem d13_40 : decode prog_37_method_1_code 40 = .ok (.invokeinterface 22 1, 5) := by decide +kernel
theorem d13_46 : decode prog_37_method_1_code 46 = .ok (.invokeinterface 22 1, 5) := by decide +kernel
theorem d13_53 : decode prog_37_method_1_code 53 = .ok (.if_icmp .lt 18, 3) := by decide +kernel
theorem d13_57 : decode prog_37_method_1_code 57 = .ok (.invokeinterface 22 1, 5) := by decide +kernel
theorem d13_63 : decode prog_37_method_1_code 63 = .ok (.invokeinterface 22 1, 5) := by decide +kernel
theorem d13_68 : decode prog_37_method_1_code 68 = .ok (.if_icmp .le 34, 3) := by decide +kernel
theorem d13_108 : decode prog_37_method_1_code 108 = .ok (.invokeinterface 22 1, 5) := by decide +kernel
theorem d13_113 : decode prog_37_method_1_code 113 = .ok (.if_icmp .ge 96, 3) := by decide +kernel
theorem d13_117 : decode prog_37_method_1_code 117 = .ok (.getfield 10, 3) := by decide +kernel
theorem d13_120 : decode prog_37_method_1_code 120 = .ok (.new 35, 3) := by decide +kernel
theorem d13_127 : decode prog_37_method_1_code 127 = .ok (.invokeinterface 37 2, 5) := by decide +kernel
theorem d13_132 : decode prog_37_method_1_code 132 = .ok (.checkcast 41, 3) := by decide +kernel
theorem d13_138 : decode prog_37_method_1_code 138 = .ok (.invokeinterface 37 2, 5) := by decide +kernel
theorem d13_143 : decode prog_37_method_1_code 143 = .ok (.checkcast 43, 3) := by decide +kernel
theorem d13_148 : decode prog_37_method_1_code 148 = .ok (.ifCond .ne 7, 3) := by decide +kernel
theorem d13_152 : decode prog_37_method_1_code 152 = .ok (.goto 16, 3) := by decide +kernel
theorem d13_171 : decode prog_37_method_1_code 171 = .ok (.invokeinterface 22 1, 5) := by decide +kernel
theorem d13_176 : decode prog_37_method_1_code 176 = .ok (.if_icmp .ge 17, 3) := by decide +kernel
theorem d13_194 : decode prog_37_method_1_code 194 = .ok (.invokespecial 45, 3) := by decide +kernel
theorem d13_197 : decode prog_37_method_1_code 197 = .ok (.invokeinterface 48 2, 5) := by decide +kernel
theorem d13_206 : decode prog_37_method_1_code 206 = .ok (.goto (-101), 3) := by decide +kernel
theorem d13_209 : decode prog_37_method_1_code 209 = .ok (.return_, 1) := by decide +kernel
theorem e13_0_1 : own_dec prog_37_method_1_code 0 [(.aload_n 0, 1)] = true := by decide +kernel
theorem e13_4_1 : own_dec prog_37_method_1_code 4 [(.aload_n 0, 1)] = true := by decide +kernel
theorem e13_8_1 : own_dec prog_37_method_1_code 8 [(.dup, 1)] = true := by decide +kernel
theorem e13_15_1 : own_dec prog_37_method_1_code 15 [(.aload_n 1, 1)] = true := by decide +kernel
theorem e13_24_1 : own_dec prog_37_method_1_code 24 [(.aload_n 2, 1)] = true := by decide +kernel
theorem e13_30_1 : own_dec prog_37_method_1_code 30 [(.aload_n 1, 1)] = true := by decide +kernel
theorem e13_39_1 : own_dec prog_37_method_1_code 39 [(.aload_n 3, 1)] = true := by decide +kernel
theorem e13_45_1 : own_dec prog_37_method_1_code 45 [(.aload_n 1, 1)] = true := by decide +kernel
theorem e13_51_2 : own_dec prog_37_method_1_code 51 [(.iconst 1, 1), (.isub, 1)] = true := by decide +kernel
theorem e13_56_1 : own_dec prog_37_method_1_code 56 [(.aload_n 3, 1)] = true := by decide +kernel
theorem e13_62_1 : own_dec prog_37_method_1_code 62 [(.aload_n 1, 1)] = true := by decide +kernel
theorem e13_102_4 : own_dec prog_37_method_1_code 102 [(.iconst 0, 1), (.istore 4, 2), (.iload 4, 2), (.aload_n 1, 1)] = true := by decide +kernel
theorem e13_116_1 : own_dec prog_37_method_1_code 116 [(.aload_n 0, 1)] = true := by decide +kernel
theorem e13_123_3 : own_dec prog_37_method_1_code 123 [(.dup, 1), (.aload_n 1, 1), (.iload 4, 2)] = true := by decide +kernel
theorem e13_135_2 : own_dec prog_37_method_1_code 135 [(.aload_n 2, 1), (.iload 4, 2)] = true := by decide +kernel
theorem e13_146_1 : own_dec prog_37_method_1_code 146 [(.iload 4, 2)] = true := by decide +kernel
theorem e13_151_1 : own_dec prog_37_method_1_code 151 [(.aconst_null, 1)] = true := by decide +kernel
theorem e13_168_2 : own_dec prog_37_method_1_code 168 [(.iload 4, 2), (.aload_n 3, 1)] = true := by decide +kernel
theorem e13_193_1 : own_dec prog_37_method_1_code 193 [(.aconst_null, 1)] = true := by decide +kernel
theorem e13_202_2 : own_dec prog_37_method_1_code 202 [(.pop, 1), (.iinc 4 1, 3)] = true := by decide +kernel
theorem e13_105_1 : own_dec prog_37_method_1_code 105 [(.iload 4, 2)] = true := by decide +kernel
theorem e13_107_1 : own_dec prog_37_method_1_code 107 [(.aload_n 1, 1)] = true := by decide +kernel
theorem pn_8 : plainName "com/example/tariff/tariff/SupplyVoltages" = true := by first | (simp [plainName, overriddenIn]; done) | decide +kernel
theorem pd_8 : parseMethodDescriptor "()Z" = some ⟨[], some .boolean⟩ := by decide +kernel
theorem pd_9 : parseMethodDescriptor "()I" = some ⟨[], some .int⟩ := by decide +kernel
theorem pd_10 : parseMethodDescriptor "(Ljava/math/BigInteger;Lcom/example/tariff/tariff/VoltageClass;Ljava/math/BigInteger;Ljava/math/BigInteger;)V" = some ⟨[(.object "java/math/BigInteger"), (.object "com/example/tariff/tariff/VoltageClass"), (.object "java/math/BigInteger"), (.object "java/math/BigInteger")], none⟩ := by decide +kernel
theorem pd_11 : parseMethodDescriptor "(Ljava/lang/Object;)Z" = some ⟨[(.object "java/lang/Object")], some .boolean⟩ := by decide +kernel
def Q13t10 (Z : State) (o_EXTRA_HIGH : Addr) (o_HIGH : Addr) (o_ZERO : Addr) (o_DEF : Addr) (kDEF : ClassId) (o_pos : Addr) (cl_pos : Cell) (o_neg : Addr) (cl_neg : Cell) (a1 : Addr) (l1 : Addr) (l2 : Addr) (l3 : Addr) (r1 : Addr) (q1 : ClassId) (r2 : Addr) (q2 : ClassId) (vv : Addr) (vc0 : Addr) (h0 : Heap) (n0 : Nat) (v : Option Value) (h : Heap) (L : List Loc) : Prop := ∃ vl : Addr, ∃ ra : Addr, ∃ kr : ClassId, ∃ vo0 : Addr, v = none ∧ Fr n0 L ∧ Keep h0 h [a1] ∧ ex13 Z h a1 ∧ fl14 Z h a1 (.ref vl) ∧ ex4 Z h vl ∧ fl6 Z h vl (.int (1 : Int32)) ∧ fl7 Z h vl (.ref ra) ∧ Arv Z h ra kr (.object "java/lang/Object") (10 : Int32) [(.ref vo0), .null, .null, .null, .null, .null, .null, .null, .null, .null] .null ∧ ex8 Z h vo0 ∧ fl12 Z h vo0 .null
set_option maxRecDepth 65536 in
set_option maxHeartbeats 40000000 in
theorem rm13t10 (l : Launch) (Z : State) (a0 : Array Value) (hw : OW a0 Z) (ws : List Jvm.Cond) (o_EXTRA_HIGH : Addr) (o_HIGH : Addr) (o_ZERO : Addr) (o_DEF : Addr) (kDEF : ClassId) (o_pos : Addr) (cl_pos : Cell) (o_neg : Addr) (cl_neg : Cell) (a1 : Addr) (l1 : Addr) (l2 : Addr) (l3 : Addr) (r1 : Addr) (q1 : ClassId) (r2 : Addr) (q2 : ClassId) (vv : Addr) (vc0 : Addr) (h0 : Heap) (n0 : Nat) (Z0 : n0 ≤ h0.size) (OLD : Old Z n0 h0) (A : Amb Z o_EXTRA_HIGH o_HIGH o_ZERO o_DEF kDEF o_pos cl_pos o_neg cl_neg) (P0 : ex13 Z h0 a1) (P1 : fl14 Z h0 a1 .null) (P2 : ex4 Z h0 l1) (P3 : fl6 Z h0 l1 (.int (1 : Int32))) (P4 : fl7 Z h0 l1 (.ref r1)) (P5 : Arv Z h0 r1 q1 (.object "java/lang/Object") (10 : Int32) [(.ref vv), .null, .null, .null, .null, .null, .null, .null, .null, .null] .null) (P6 : ex4 Z h0 l2) (P7 : fl6 Z h0 l2 (.int (1 : Int32))) (P8 : fl7 Z h0 l2 (.ref r2)) (P9 : Arv Z h0 r2 q2 (.object "java/lang/Object") (10 : Int32) [(.ref vc0), .null, .null, .null, .null, .null, .null, .null, .null, .null] .null) (P10 : ex4 Z h0 l3) (P11 : fl6 Z h0 l3 (.int (0 : Int32))) (P12 : ex1 Z h0 vv) (P13 : ex0 Z h0 vc0) (g_a1 : n0 ≤ a1) (hd0 : @Ne Nat a1 l1) (hd1 : @Ne Nat a1 l2) (hd2 : @Ne Nat a1 l3) (hd3 : @Ne Nat a1 r1) (hd4 : @Ne Nat a1 r2) :
    own_Met l my13 prog_37_method_1_code 5 none ws (own_rm 5 3 17 69) #[(.ref a1), (.ref l1), (.ref l2), (.ref l3)] Z h0 (Q13t10 Z o_EXTRA_HIGH o_HIGH o_ZERO o_DEF kDEF o_pos cl_pos o_neg cl_neg a1 l1 l2 l3 r1 q1 r2 q2 vv vc0 h0 n0) 3 17 := by
  refine own_body (plainFor_of_name pn_8) (fun m => by first | (simp [entryFrame, mkF, argsToLocals, Value.category]; done) | rfl) (Ls := #[.val (.ref a1), .val (.ref l1), .val (.ref l2), .val (.ref l3), .unset]) fun p e s m below meth c s₁ X0 hx hby hml hZ e0 hown hnm hlk hrt => ?_
  have N0 := Fr.nil n0
  have lt_P0 : @LT.lt Nat _ a1 (Array.size h0) := P0.lt
  have lt_P2 : @LT.lt Nat _ l1 (Array.size h0) := P2.lt
  have lt_P5 : @LT.lt Nat _ r1 (Array.size h0) := P5.lt
  have lt_P6 : @LT.lt Nat _ l2 (Array.size h0) := P6.lt
  have lt_P9 : @LT.lt Nat _ r2 (Array.size h0) := P9.lt
  have lt_P10 : @LT.lt Nat _ l3 (Array.size h0) := P10.lt
  have lt_P12 : @LT.lt Nat _ vv (Array.size h0) := P12.lt
  have lt_P13 : @LT.lt Nat _ vc0 (Array.size h0) := P13.lt
  refine own_ru 1 [(.ref a1)] X0 hx hby e13_0_1 rfl rfl ?_
  refine own_iO X0 hx hZ hown (wd98 hw) (wd22 hw) (wd23 hw) e0 4 0 (by rw [hml]; rfl) rfl (hb hby d13_1) rfl (by decide) rfl (by decide) fun T221 X221 e221 => ?_
  refine own_ru 5 [(.ref a1)] X221 hx hby e13_4_1 rfl rfl ?_
  refine own_nO X221 hx hZ hown (wd99 hw) (wd33 hw) (wd34 hw) e221 8 (hb hby d13_5) rfl (by decide) (by decide) fun T222 h222 b222 g222 X222 e222 E222 A222 D222 UN222 => ?_
  have ll222 : @LT.lt Nat _ b222 (Array.size h222) := A222.lt
  have KK222 : Keep h0 h222 [a1] := (Keep.refl h0 [a1]).ext E222
  have z222 := E222.1
  have F223 : fl5 Z h222 b222 (.int (0 : Int32)) := D222 (Or.inl (wd52 hw)) (ty := .int) (by decide)
  have F224 : fl7 Z h222 b222 .null := D222 (Or.inl (wd55 hw)) (ty := (.array (.object "java/lang/Object"))) (by decide)
  have F225 : fl6 Z h222 b222 (.int (0 : Int32)) := D222 (Or.inl (wd68 hw)) (ty := .int) (by decide)
  refine own_ru 9 [(.ref b222), (.ref b222), (.ref a1)] X222 hx hby e13_8_1 rfl rfl ?_
  have f226 := (OLD.ext E222)
  refine own_cN X222 hx hZ hown rfl (wd100 hw) (wd36 hw) (by decide) (wd37 hw) (wd34 hw) (rm5 l Z a0 hw [] o_EXTRA_HIGH o_HIGH o_ZERO o_DEF kDEF o_pos cl_pos o_neg cl_neg b222 h222 n0 (by omega) f226 A A222 F223 F225 F224 (by omega)) e222  [] [(.ref b222), (.ref a1)] 12 2 (hb hby d13_9) rfl (by rw [hml]; rfl) rfl rfl (lenOf pd_0 rfl) rfl (by decide) fun v227 T227 Lc227 X227 hQ227 => ?_
  obtain ⟨rfl, N227q, K227, G227_0, G227_1, G227_2, G227_3⟩ := hQ227
  have N227 := Fr.app N0 N227q
  have z227 := K227.1
  have KK227 : Keep h0 T227.heap [a1] := KK222.trans K227 (allS (Or.inr (by omega)) all0)
  have lt227_0 : @LT.lt Nat _ b222 (Array.size T227.heap) := G227_0.lt
  have f228 := (Exa.keep (Exa.ext E222 P0) K227)
  have f229 := ((Fld.ext E222 P1).keep K227 (own_nS (by omega) nin0))
  refine own_pF X227 hx hZ hown (host := "") (Or.inl (wd101 hw)) Via.refl rfl f229 f228 (Or.inr ⟨(wd102 hw), rfl, hnm⟩) (wd93 hw) (ty := (.object "java/util/List")) (by decide) rfl rfl 15 rfl (hb hby d13_12) rfl fun T230 h230 X230 e230 W230 => ?_
  have F230 := Fld.same W230 f229
  have z230 := W230.size
  have KK230 : Keep h0 h230 [a1] := KK227.wr W230 (Or.inl (by simp))
  have N230 := Fr.snoc X230 N227 (by omega)
  refine own_ru 16 [(.ref l1)] X230 hx hby e13_15_1 rfl rfl ?_
  have f231 := (Fld.other W230 ((Fld.ext E222 P3).keep K227 (own_nS (by omega) nin0)) (Or.inl (own_ne (by omega))))
  have f233 := (Exa.wr W230 (Exa.keep (Exa.ext E222 P2) K227))
  refine own_cI X230 hx hZ hown (wd103 hw) (wd104 hw) (mvT hZ (wd105 hw)) (wd106 hw) (wd107 hw) (wd108 hw) (wd109 hw) (wd63 hw) (by decide) (wd110 hw) (wd34 hw) (rm14 l Z a0 hw [] l1 (1 : Int32) h230 n0 (by omega) f231) e230 f233 [] [] 21 0 (hb hby d13_16) rfl (by rw [hml]; rfl) rfl rfl (lenOf pd_8 rfl) rfl (by decide) fun v232 T232 Lc232 X232 hQ232 => ?_
  obtain ⟨hvc232, N232q, e232⟩ := hQ232
  have N232 := Fr.app N230 N232q
  rcases hvc232 with ⟨rfl, hp16⟩ | ⟨rfl, hp16⟩
  · exact absurd hp16 (by decide)
  · refine own_iN 24 X232 hx (hb hby d13_21) rfl ((if0 _ _).trans (teq (by decide : ((0 : Int32) = (0 : Int32)))).2) rfl ?_
    refine own_ru 25 [(.ref l2)] X232 hx hby e13_24_1 rfl rfl ?_
    have f234 := (Fld.other W230 ((Fld.ext E222 P7).keep K227 (own_nS (by omega) nin0)) (Or.inl (own_ne (by omega))))
    have f236 := (Exa.wr W230 (Exa.keep (Exa.ext E222 P6) K227))
    refine own_cI X232 hx hZ hown (wd111 hw) (wd112 hw) (mvT hZ (wd113 hw)) (wd114 hw) (wd115 hw) (wd116 hw) (wd117 hw) (wd63 hw) (by decide) (wd118 hw) (wd34 hw) (rm15 l Z a0 hw [] l2 (1 : Int32) h230 n0 (by omega) f234) e232 f236 [] [] 30 0 (hb hby d13_25) rfl (by rw [hml]; rfl) rfl rfl (lenOf pd_9 rfl) rfl (by decide) fun v235 T235 Lc235 X235 hQ235 => ?_
    obtain ⟨rfl, N235q, e235⟩ := hQ235
    have N235 := Fr.app N232 N235q
    refine own_ru 31 [(.ref l1), (.int (1 : Int32))] X235 hx hby e13_30_1 rfl rfl ?_
    refine own_cI X235 hx hZ hown (wd111 hw) (wd112 hw) (mvT hZ (wd113 hw)) (wd114 hw) (wd115 hw) (wd116 hw) (wd117 hw) (wd63 hw) (by decide) (wd118 hw) (wd34 hw) (rm15 l Z a0 hw [] l1 (1 : Int32) h230 n0 (by omega) f231) e235 f233 [] [(.int (1 : Int32))] 36 1 (hb hby d13_31) rfl (by rw [hml]; rfl) rfl rfl (lenOf pd_9 rfl) rfl (by decide) fun v237 T237 Lc237 X237 hQ237 => ?_
    obtain ⟨rfl, N237q, e237⟩ := hQ237
    have N237 := Fr.app N235 N237q
    refine own_kN 39 X237 hx (hb hby d13_36) rfl (teq (by decide : ((1 : Int32) = (1 : Int32)))).2 rfl ?_
    refine own_ru 40 [(.ref l3)] X237 hx hby e13_39_1 rfl rfl ?_
    have f238 := (Fld.other W230 ((Fld.ext E222 P11).keep K227 (own_nS (by omega) nin0)) (Or.inl (own_ne (by omega))))
    have f240 := (Exa.wr W230 (Exa.keep (Exa.ext E222 P10) K227))
    refine own_cI X237 hx hZ hown (wd111 hw) (wd112 hw) (mvT hZ (wd113 hw)) (wd114 hw) (wd115 hw) (wd116 hw) (wd117 hw) (wd63 hw) (by decide) (wd118 hw) (wd34 hw) (rm15 l Z a0 hw [] l3 (0 : Int32) h230 n0 (by omega) f238) e237 f240 [] [] 45 0 (hb hby d13_40) rfl (by rw [hml]; rfl) rfl rfl (lenOf pd_9 rfl) rfl (by decide) fun v239 T239 Lc239 X239 hQ239 => ?_
    obtain ⟨rfl, N239q, e239⟩ := hQ239
    have N239 := Fr.app N237 N239q
    refine own_ru 46 [(.ref l1), (.int (0 : Int32))] X239 hx hby e13_45_1 rfl rfl ?_
    refine own_cI X239 hx hZ hown (wd111 hw) (wd112 hw) (mvT hZ (wd113 hw)) (wd114 hw) (wd115 hw) (wd116 hw) (wd117 hw) (wd63 hw) (by decide) (wd118 hw) (wd34 hw) (rm15 l Z a0 hw [] l1 (1 : Int32) h230 n0 (by omega) f231) e239 f233 [] [(.int (0 : Int32))] 51 1 (hb hby d13_46) rfl (by rw [hml]; rfl) rfl rfl (lenOf pd_9 rfl) rfl (by decide) fun v241 T241 Lc241 X241 hQ241 => ?_
    obtain ⟨rfl, N241q, e241⟩ := hQ241
    have N241 := Fr.app N239 N241q
    refine own_ru 53 [(.int (0 : Int32)), (.int (0 : Int32))] X241 hx hby e13_51_2 rfl rfl ?_
    refine own_kN 56 X241 hx (hb hby d13_53) rfl (flt (by decide : ¬ ((0 : Int32) < (0 : Int32)))).1 rfl ?_
    refine own_ru 57 [(.ref l3)] X241 hx hby e13_56_1 rfl rfl ?_
    refine own_cI X241 hx hZ hown (wd111 hw) (wd112 hw) (mvT hZ (wd113 hw)) (wd114 hw) (wd115 hw) (wd116 hw) (wd117 hw) (wd63 hw) (by decide) (wd118 hw) (wd34 hw) (rm15 l Z a0 hw [] l3 (0 : Int32) h230 n0 (by omega) f238) e241 f240 [] [] 62 0 (hb hby d13_57) rfl (by rw [hml]; rfl) rfl rfl (lenOf pd_9 rfl) rfl (by decide) fun v242 T242 Lc242 X242 hQ242 => ?_
    obtain ⟨rfl, N242q, e242⟩ := hQ242
    have N242 := Fr.app N241 N242q
    refine own_ru 63 [(.ref l1), (.int (0 : Int32))] X242 hx hby e13_62_1 rfl rfl ?_
    refine own_cI X242 hx hZ hown (wd111 hw) (wd112 hw) (mvT hZ (wd113 hw)) (wd114 hw) (wd115 hw) (wd116 hw) (wd117 hw) (wd63 hw) (by decide) (wd118 hw) (wd34 hw) (rm15 l Z a0 hw [] l1 (1 : Int32) h230 n0 (by omega) f231) e242 f233 [] [(.int (0 : Int32))] 68 1 (hb hby d13_63) rfl (by rw [hml]; rfl) rfl rfl (lenOf pd_9 rfl) rfl (by decide) fun v243 T243 Lc243 X243 hQ243 => ?_
    obtain ⟨rfl, N243q, e243⟩ := hQ243
    have N243 := Fr.app N242 N243q
    refine own_kY 102 X243 hx (hb hby d13_68) rfl (flt (by decide : ¬ ((1 : Int32) < (0 : Int32)))).2.2.2 (by decide) (by decide) ?_
    refine own_rl 108 #[.val (.ref a1), .val (.ref l1), .val (.ref l2), .val (.ref l3), .val (.int (0 : Int32))] [(.ref l1), (.int (0 : Int32))] X243 hx hby e13_102_4 rfl rfl ?_
    refine own_cI X243 hx hZ hown (wd111 hw) (wd112 hw) (mvT hZ (wd113 hw)) (wd114 hw) (wd115 hw) (wd116 hw) (wd117 hw) (wd63 hw) (by decide) (wd118 hw) (wd34 hw) (rm15 l Z a0 hw [] l1 (1 : Int32) h230 n0 (by omega) f231) e243 f233 [] [(.int (0 : Int32))] 113 1 (hb hby d13_108) rfl (by rw [hml]; rfl) rfl rfl (lenOf pd_9 rfl) rfl (by decide) fun v244 T244 Lc244 X244 hQ244 => ?_
    obtain ⟨rfl, N244q, e244⟩ := hQ244
    have N244 := Fr.app N243 N244q
    refine own_kN 116 X244 hx (hb hby d13_113) rfl (tlt (by decide : ((0 : Int32) < (1 : Int32)))).2.1 rfl ?_
    refine own_ru 117 [(.ref a1)] X244 hx hby e13_116_1 rfl rfl ?_
    refine own_gF X244 hx hZ hown (host := "") (Or.inl (wd101 hw)) Via.refl e244 F230 120 rfl (hb hby d13_117) rfl fun T245 X245 e245 => ?_
    refine own_nO X245 hx hZ hown (wd119 hw) (wd120 hw) (wd121 hw) e245 123 (hb hby d13_120) rfl (by decide) (by decide) fun T246 h246 b246 g246 X246 e246 E246 A246 D246 UN246 => ?_
    have ll246 : @LT.lt Nat _ b246 (Array.size h246) := A246.lt
    have KK246 : Keep h0 h246 [a1] := KK230.ext E246
    have z246 := E246.1
    have F247 : fl9 Z h246 b246 .null := D246 (Or.inr (wd151 hw)) (ty := (.object "java/math/BigInteger")) (by decide)
    have F248 : fl10 Z h246 b246 .null := D246 (Or.inr (wd153 hw)) (ty := (.object "com/example/tariff/tariff/VoltageClass")) (by decide)
    have F249 : fl11 Z h246 b246 .null := D246 (Or.inr (wd155 hw)) (ty := (.object "java/math/BigInteger")) (by decide)
    have F250 : fl12 Z h246 b246 .null := D246 (Or.inr (wd157 hw)) (ty := (.object "java/math/BigInteger")) (by decide)
    refine own_ru 127 [(.int (0 : Int32)), (.ref l1), (.ref b246), (.ref b246), (.ref b222)] X246 hx hby e13_123_3 rfl rfl ?_
    have f251 := (Exa.ext E246 f233)
    have f252 := (Fld.ext E246 f231)
    have f253 := (Fld.ext E246 (Fld.other W230 ((Fld.ext E222 P4).keep K227 (own_nS (by omega) nin0)) (Or.inl (own_ne (by omega)))))
    have f254 := ((((P5.ext E222).keep K227 (own_nS (by omega) nin0)).other W230 (own_ne (by omega))).ext E246)
    refine own_cI X246 hx hZ hown (wd122 hw) (wd123 hw) (mvT hZ (wd124 hw)) (wd125 hw) (wd126 hw) (wd127 hw) (wd128 hw) (wd63 hw) (by decide) (wd129 hw) (wd34 hw) (rm16 l Z a0 hw [] l1 (0 : Int32) r1 q1 [(.ref vv), .null, .null, .null, .null, .null, .null, .null, .null, .null] vv (1 : Int32) h246 n0 (by omega) f251 f252 f253 f254 (by decide) (by decide) ⟨by decide, by decide⟩ rfl) e246 f251 [(.int (0 : Int32))] [(.ref b246), (.ref b246), (.ref b222)] 132 3 (hb hby d13_127) rfl (by rw [hml]; rfl) rfl rfl (lenOf pd_7 rfl) rfl (by decide) fun v255 T255 Lc255 X255 hQ255 => ?_
    obtain ⟨rfl, N255q, e255⟩ := hQ255
    have N255 := Fr.app N244 N255q
    have f256 := (Exa.ext E246 (Exa.wr W230 (Exa.keep (Exa.ext E222 P12) K227)))
    refine own_ca X255 hx hZ hown (wd143 hw) e255 (Ins.self f256) 135 rfl (hb hby d13_132) rfl fun T257 X257 e257 => ?_
    refine own_ru 138 [(.int (0 : Int32)), (.ref l2), (.ref vv), (.ref b246), (.ref b246), (.ref b222)] X257 hx hby e13_135_2 rfl rfl ?_
    have f258 := (Exa.ext E246 f236)
    have f259 := (Fld.ext E246 f234)
    have f260 := (Fld.ext E246 (Fld.other W230 ((Fld.ext E222 P8).keep K227 (own_nS (by omega) nin0)) (Or.inl (own_ne (by omega)))))
    have f261 := ((((P9.ext E222).keep K227 (own_nS (by omega) nin0)).other W230 (own_ne (by omega))).ext E246)
    refine own_cI X257 hx hZ hown (wd122 hw) (wd123 hw) (mvT hZ (wd124 hw)) (wd125 hw) (wd126 hw) (wd127 hw) (wd128 hw) (wd63 hw) (by decide) (wd129 hw) (wd34 hw) (rm16 l Z a0 hw [] l2 (0 : Int32) r2 q2 [(.ref vc0), .null, .null, .null, .null, .null, .null, .null, .null, .null] vc0 (1 : Int32) h246 n0 (by omega) f258 f259 f260 f261 (by decide) (by decide) ⟨by decide, by decide⟩ rfl) e257 f258 [(.int (0 : Int32))] [(.ref vv), (.ref b246), (.ref b246), (.ref b222)] 143 4 (hb hby d13_138) rfl (by rw [hml]; rfl) rfl rfl (lenOf pd_7 rfl) rfl (by decide) fun v262 T262 Lc262 X262 hQ262 => ?_
    obtain ⟨rfl, N262q, e262⟩ := hQ262
    have N262 := Fr.app N255 N262q
    have f263 := (Exa.ext E246 (Exa.wr W230 (Exa.keep (Exa.ext E222 P13) K227)))
    refine own_ca X262 hx hZ hown (wd144 hw) e262 (Ins.self f263) 146 rfl (hb hby d13_143) rfl fun T264 X264 e264 => ?_
    refine own_ru 148 [(.int (0 : Int32)), (.ref vc0), (.ref vv), (.ref b246), (.ref b246), (.ref b222)] X264 hx hby e13_146_1 rfl rfl ?_
    refine own_iN 151 X264 hx (hb hby d13_148) rfl ((if0 _ _).trans (teq (by decide : ((0 : Int32) = (0 : Int32)))).2) rfl ?_
    refine own_ru 152 [.null, (.ref vc0), (.ref vv), (.ref b246), (.ref b246), (.ref b222)] X264 hx hby e13_151_1 rfl rfl ?_
    refine own_go 168 X264 hx (hb hby d13_152) (by decide) (by decide) ?_
    refine own_ru 171 [(.ref l3), (.int (0 : Int32)), .null, (.ref vc0), (.ref vv), (.ref b246), (.ref b246), (.ref b222)] X264 hx hby e13_168_2 rfl rfl ?_
    have f265 := (Fld.ext E246 f238)
    have f267 := (Exa.ext E246 f240)
    refine own_cI X264 hx hZ hown (wd111 hw) (wd112 hw) (mvT hZ (wd113 hw)) (wd114 hw) (wd115 hw) (wd116 hw) (wd117 hw) (wd63 hw) (by decide) (wd118 hw) (wd34 hw) (rm15 l Z a0 hw [] l3 (0 : Int32) h246 n0 (by omega) f265) e264 f267 [] [(.int (0 : Int32)), .null, (.ref vc0), (.ref vv), (.ref b246), (.ref b246), (.ref b222)] 176 7 (hb hby d13_171) rfl (by rw [hml]; rfl) rfl rfl (lenOf pd_9 rfl) rfl (by decide) fun v266 T266 Lc266 X266 hQ266 => ?_
    obtain ⟨rfl, N266q, e266⟩ := hQ266
    have N266 := Fr.app N262 N266q
    refine own_kY 193 X266 hx (hb hby d13_176) rfl (flt (by decide : ¬ ((0 : Int32) < (0 : Int32)))).2.1 (by decide) (by decide) ?_
    refine own_ru 194 [.null, .null, (.ref vc0), (.ref vv), (.ref b246), (.ref b246), (.ref b222)] X266 hx hby e13_193_1 rfl rfl ?_
    refine own_cRi X266 hx hZ hown rfl (wd146 hw) (wd147 hw) (by decide) (wd148 hw) (wd121 hw) (rm20 l Z a0 hw [] b246 (.ref vv) (.ref vc0) (.null) (.null) h246 n0 (by omega) A246 F247 F248 F249 F250 (by omega) rfl rfl rfl rfl) e266  [(.ref vv), (.ref vc0), .null, .null] [(.ref b246), (.ref b222)] 197 2 (hb hby d13_194) rfl (by rw [hml]; rfl) rfl rfl (lenOf pd_10 rfl) rfl (by decide) fun v268 T268 Lc268 X268 hQ268 => ?_
    obtain ⟨rfl, N268q, K268, G268_0, G268_1, G268_2, G268_3, G268_4⟩ := hQ268
    have N268 := Fr.app N266 N268q
    have z268 := K268.1
    have KK268 : Keep h0 T268.heap [a1] := KK246.trans K268 (allS (Or.inr (by omega)) all0)
    have lt268_0 : @LT.lt Nat _ b246 (Array.size T268.heap) := G268_0.lt
    have f269 := ((((f226.keep K227 (allS (by omega) all0)).wr W230 (by omega)).ext E246).keep K268 (allS (by omega) all0))
    have f270 := (Exa.keep (Exa.ext E246 (Exa.wr W230 G227_0)) K268)
    have f271 := ((Fld.ext E246 (Fld.other W230 G227_1 (Or.inl (own_ne (by omega))))).keep K268 (own_nS (by omega) nin0))
    have f272 := ((Fld.ext E246 (Fld.other W230 G227_2 (Or.inl (own_ne (by omega))))).keep K268 (own_nS (by omega) nin0))
    have f273 := ((Fld.ext E246 (Fld.other W230 G227_3 (Or.inl (own_ne (by omega))))).keep K268 (own_nS (by omega) nin0))
    have f274 : Ins Z T268.heap b246 "java/lang/Object" true := (Ins.of_exa G268_0 (wd159 hw))
    refine own_cI X268 hx hZ hown (wd158 hw) (wd57 hw) (mvT hZ (wd58 hw)) (wd59 hw) (wd60 hw) (wd61 hw) (wd62 hw) (wd63 hw) (by decide) (wd64 hw) (wd34 hw) (rm8z l Z a0 hw [] o_EXTRA_HIGH o_HIGH o_ZERO o_DEF kDEF o_pos cl_pos o_neg cl_neg b222 b246 (0 : Int32) T268.heap n0 (by omega) f269 A f270 f271 f272 f273 f274 (by omega)) rfl f270 [(.ref b246)] [] 202 0 (hb hby d13_197) rfl (by rw [hml]; rfl) rfl rfl (lenOf pd_11 rfl) rfl (by decide) fun v275 T275 Lc275 X275 hQ275 => ?_
    obtain ⟨ar_275, kk_275, rfl, N275q, K275, G275_0, G275_1, G275_2, G275_3, G275_4, U275_0, U275_1⟩ := hQ275
    have N275 := Fr.app N268 N275q
    have z275 := K275.1
    have KK275 : Keep h0 T275.heap [a1] := KK268.trans K275 (allS (Or.inr (by omega)) all0)
    have lt275_0 : @LT.lt Nat _ b222 (Array.size T275.heap) := G275_0.lt
    have G275_1' : fl5 Z T275.heap b222 (.int (1 : Int32)) := G275_1
    have lt275_4 : @LT.lt Nat _ ar_275 (Array.size T275.heap) := G275_4.lt
    refine own_rl 206 #[.val (.ref a1), .val (.ref l1), .val (.ref l2), .val (.ref l3), .val (.int (1 : Int32))] [] X275 hx hby e13_202_2 rfl rfl ?_
    refine own_go 105 X275 hx (hb hby d13_206) (by decide) (by decide) ?_
    refine own_ru 107 [(.int (1 : Int32))] X275 hx hby e13_105_1 rfl rfl ?_
    as_aux_lemma =>
      refine own_ru 108 [(.ref l1), (.int (1 : Int32))] X275 hx hby e13_107_1 rfl rfl ?_
      have f276 := ((f252.keep K268 (own_nS (by omega) nin0)).keep K275 (own_nS (by omega) nin0))
      have f278 := (Exa.keep (Exa.keep f251 K268) K275)
      refine own_cI X275 hx hZ hown (wd111 hw) (wd112 hw) (mvT hZ (wd113 hw)) (wd114 hw) (wd115 hw) (wd116 hw) (wd117 hw) (wd63 hw) (by decide) (wd118 hw) (wd34 hw) (rm15 l Z a0 hw [] l1 (1 : Int32) T275.heap n0 (by omega) f276) rfl f278 [] [(.int (1 : Int32))] 113 1 (hb hby d13_108) rfl (by rw [hml]; rfl) rfl rfl (lenOf pd_9 rfl) rfl (by decide) fun v277 T277 Lc277 X277 hQ277 => ?_
      obtain ⟨rfl, N277q, e277⟩ := hQ277
      have N277 := Fr.app N275 N277q
      refine own_kY 209 X277 hx (hb hby d13_113) rfl (flt (by decide : ¬ ((1 : Int32) < (1 : Int32)))).2.1 (by decide) (by decide) ?_
      have f280 := (Exa.keep (Exa.keep (Exa.ext E246 (Exa.wr W230 f228)) K268) K275)
      have f281 := (((Fld.ext E246 F230).keep K268 (own_nS (by omega) nin0)).keep K275 (own_nS (by omega) nin0))
      have f282 := (Exa.keep G268_0 K275)
      have f283 := (G268_4.keep K275 (own_nS (by omega) nin0))
      have hq279 : Q13t10 Z o_EXTRA_HIGH o_HIGH o_ZERO o_DEF kDEF o_pos cl_pos o_neg cl_neg a1 l1 l2 l3 r1 q1 r2 q2 vv vc0 h0 n0 none T275.heap _ := ⟨b222, ar_275, kk_275, b246, rfl, N277, KK275, f280, f281, G275_0, G275_2, G275_3, G275_4, f282, f283⟩
      exact own_retV X277 hx hlk hrt (hb hby d13_209) e277 hq279 (by decide) (by decide)
theorem d13_182 : decode prog_37_method_1_code 182 = .ok (.invokeinterface 37 2, 5) := by decide +kernel
theorem d13_187 : decode prog_37_method_1_code 187 = .ok (.checkcast 41, 3) := by decide +kernel
theorem d13_190 : decode prog_37_method_1_code 190 = .ok (.goto 4, 3) := by decide +kernel
theorem e13_179_2 : own_dec prog_37_method_1_code 179 [(.aload_n 3, 1), (.iload 4, 2)] = true := by decide +kernel
theorem e13_105_2 : own_dec prog_37_method_1_code 105 [(.iload 4, 2), (.aload_n 1, 1)] = true := by decide +kernel
def Q13t11 (Z : State) (o_EXTRA_HIGH : Addr) (o_HIGH : Addr) (o_ZERO : Addr) (o_DEF : Addr) (kDEF : ClassId) (o_pos : Addr) (cl_pos : Cell) (o_neg : Addr) (cl_neg : Cell) (a1 : Addr) (l1 : Addr) (l2 : Addr) (l3 : Addr) (r1 : Addr) (q1 : ClassId) (r2 : Addr) (q2 : ClassId) (r3 : Addr) (q3 : ClassId) (vv : Addr) (vc0 : Addr) (vb0 : Addr) (h0 : Heap) (n0 : Nat) (v : Option Value) (h : Heap) (L : List Loc) : Prop := ∃ vl : Addr, ∃ ra : Addr, ∃ kr : ClassId, ∃ vo0 : Addr, v = none ∧ Fr n0 L ∧ Keep h0 h [a1] ∧ ex13 Z h a1 ∧ fl14 Z h a1 (.ref vl) ∧ ex4 Z h vl ∧ fl6 Z h vl (.int (1 : Int32)) ∧ fl7 Z h vl (.ref ra) ∧ Arv Z h ra kr (.object "java/lang/Object") (10 : Int32) [(.ref vo0), .null, .null, .null, .null, .null, .null, .null, .null, .null] .null ∧ ex8 Z h vo0 ∧ fl12 Z h vo0 (.ref vb0)
set_option maxRecDepth 65536 in
set_option maxHeartbeats 40000000 in
theorem rm13t11 (l : Launch) (Z : State) (a0 : Array Value) (hw : OW a0 Z) (ws : List Jvm.Cond) (o_EXTRA_HIGH : Addr) (o_HIGH : Addr) (o_ZERO : Addr) (o_DEF : Addr) (kDEF : ClassId) (o_pos : Addr) (cl_pos : Cell) (o_neg : Addr) (cl_neg : Cell) (a1 : Addr) (l1 : Addr) (l2 : Addr) (l3 : Addr) (r1 : Addr) (q1 : ClassId) (r2 : Addr) (q2 : ClassId) (r3 : Addr) (q3 : ClassId) (vv : Addr) (vc0 : Addr) (vb0 : Addr) (h0 : Heap) (n0 : Nat) (Z0 : n0 ≤ h0.size) (OLD : Old Z n0 h0) (A : Amb Z o_EXTRA_HIGH o_HIGH o_ZERO o_DEF kDEF o_pos cl_pos o_neg cl_neg) (P0 : ex13 Z h0 a1) (P1 : fl14 Z h0 a1 .null) (P2 : ex4 Z h0 l1) (P3 : fl6 Z h0 l1 (.int (1 : Int32))) (P4 : fl7 Z h0 l1 (.ref r1)) (P5 : Arv Z h0 r1 q1 (.object "java/lang/Object") (10 : Int32) [(.ref vv), .null, .null, .null, .null, .null, .null, .null, .null, .null] .null) (P6 : ex4 Z h0 l2) (P7 : fl6 Z h0 l2 (.int (1 : Int32))) (P8 : fl7 Z h0 l2 (.ref r2)) (P9 : Arv Z h0 r2 q2 (.object "java/lang/Object") (10 : Int32) [(.ref vc0), .null, .null, .null, .null, .null, .null, .null, .null, .null] .null) (P10 : ex4 Z h0 l3) (P11 : fl6 Z h0 l3 (.int (1 : Int32))) (P12 : fl7 Z h0 l3 (.ref r3)) (P13 : Arv Z h0 r3 q3 (.object "java/lang/Object") (10 : Int32) [(.ref vb0), .null, .null, .null, .null, .null, .null, .null, .null, .null] .null) (P14 : ex1 Z h0 vv) (P15 : ex0 Z h0 vc0) (P16 : ex1 Z h0 vb0) (g_a1 : n0 ≤ a1) (hd0 : @Ne Nat a1 l1) (hd1 : @Ne Nat a1 l2) (hd2 : @Ne Nat a1 l3) (hd3 : @Ne Nat a1 r1) (hd4 : @Ne Nat a1 r2) (hd5 : @Ne Nat a1 r3) :
    own_Met l my13 prog_37_method_1_code 5 none ws (own_rm 5 3 17 69) #[(.ref a1), (.ref l1), (.ref l2), (.ref l3)] Z h0 (Q13t11 Z o_EXTRA_HIGH o_HIGH o_ZERO o_DEF kDEF o_pos cl_pos o_neg cl_neg a1 l1 l2 l3 r1 q1 r2 q2 r3 q3 vv vc0 vb0 h0 n0) 3 17 := by
  refine own_body (plainFor_of_name pn_8) (fun m => by first | (simp [entryFrame, mkF, argsToLocals, Value.category]; done) | rfl) (Ls := #[.val (.ref a1), .val (.ref l1), .val (.ref l2), .val (.ref l3), .unset]) fun p e s m below meth c s₁ X0 hx hby hml hZ e0 hown hnm hlk hrt => ?_
  have N0 := Fr.nil n0
  have lt_P0 : @LT.lt Nat _ a1 (Array.size h0) := P0.lt
  have lt_P2 : @LT.lt Nat _ l1 (Array.size h0) := P2.lt
  have lt_P5 : @LT.lt Nat _ r1 (Array.size h0) := P5.lt
  have lt_P6 : @LT.lt Nat _ l2 (Array.size h0) := P6.lt
  have lt_P9 : @LT.lt Nat _ r2 (Array.size h0) := P9.lt
  have lt_P10 : @LT.lt Nat _ l3 (Array.size h0) := P10.lt
  have lt_P13 : @LT.lt Nat _ r3 (Array.size h0) := P13.lt
  have lt_P14 : @LT.lt Nat _ vv (Array.size h0) := P14.lt
  have lt_P15 : @LT.lt Nat _ vc0 (Array.size h0) := P15.lt
  have lt_P16 : @LT.lt Nat _ vb0 (Array.size h0) := P16.lt
  refine own_ru 1 [(.ref a1)] X0 hx hby e13_0_1 rfl rfl ?_
  refine own_iO X0 hx hZ hown (wd98 hw) (wd22 hw) (wd23 hw) e0 4 0 (by rw [hml]; rfl) rfl (hb hby d13_1) rfl (by decide) rfl (by decide) fun T284 X284 e284 => ?_
  refine own_ru 5 [(.ref a1)] X284 hx hby e13_4_1 rfl rfl ?_
  refine own_nO X284 hx hZ hown (wd99 hw) (wd33 hw) (wd34 hw) e284 8 (hb hby d13_5) rfl (by decide) (by decide) fun T285 h285 b285 g285 X285 e285 E285 A285 D285 UN285 => ?_
  have ll285 : @LT.lt Nat _ b285 (Array.size h285) := A285.lt
  have KK285 : Keep h0 h285 [a1] := (Keep.refl h0 [a1]).ext E285
  have z285 := E285.1
  have F286 : fl5 Z h285 b285 (.int (0 : Int32)) := D285 (Or.inl (wd52 hw)) (ty := .int) (by decide)
  have F287 : fl7 Z h285 b285 .null := D285 (Or.inl (wd55 hw)) (ty := (.array (.object "java/lang/Object"))) (by decide)
  have F288 : fl6 Z h285 b285 (.int (0 : Int32)) := D285 (Or.inl (wd68 hw)) (ty := .int) (by decide)
  refine own_ru 9 [(.ref b285), (.ref b285), (.ref a1)] X285 hx hby e13_8_1 rfl rfl ?_
  have f289 := (OLD.ext E285)
  refine own_cN X285 hx hZ hown rfl (wd100 hw) (wd36 hw) (by decide) (wd37 hw) (wd34 hw) (rm5 l Z a0 hw [] o_EXTRA_HIGH o_HIGH o_ZERO o_DEF kDEF o_pos cl_pos o_neg cl_neg b285 h285 n0 (by omega) f289 A A285 F286 F288 F287 (by omega)) e285  [] [(.ref b285), (.ref a1)] 12 2 (hb hby d13_9) rfl (by rw [hml]; rfl) rfl rfl (lenOf pd_0 rfl) rfl (by decide) fun v290 T290 Lc290 X290 hQ290 => ?_
  obtain ⟨rfl, N290q, K290, G290_0, G290_1, G290_2, G290_3⟩ := hQ290
  have N290 := Fr.app N0 N290q
  have z290 := K290.1
  have KK290 : Keep h0 T290.heap [a1] := KK285.trans K290 (allS (Or.inr (by omega)) all0)
  have lt290_0 : @LT.lt Nat _ b285 (Array.size T290.heap) := G290_0.lt
  have f291 := (Exa.keep (Exa.ext E285 P0) K290)
  have f292 := ((Fld.ext E285 P1).keep K290 (own_nS (by omega) nin0))
  refine own_pF X290 hx hZ hown (host := "") (Or.inl (wd101 hw)) Via.refl rfl f292 f291 (Or.inr ⟨(wd102 hw), rfl, hnm⟩) (wd93 hw) (ty := (.object "java/util/List")) (by decide) rfl rfl 15 rfl (hb hby d13_12) rfl fun T293 h293 X293 e293 W293 => ?_
  have F293 := Fld.same W293 f292
  have z293 := W293.size
  have KK293 : Keep h0 h293 [a1] := KK290.wr W293 (Or.inl (by simp))
  have N293 := Fr.snoc X293 N290 (by omega)
  refine own_ru 16 [(.ref l1)] X293 hx hby e13_15_1 rfl rfl ?_
  have f294 := (Fld.other W293 ((Fld.ext E285 P3).keep K290 (own_nS (by omega) nin0)) (Or.inl (own_ne (by omega))))
  have f296 := (Exa.wr W293 (Exa.keep (Exa.ext E285 P2) K290))
  refine own_cI X293 hx hZ hown (wd103 hw) (wd104 hw) (mvT hZ (wd105 hw)) (wd106 hw) (wd107 hw) (wd108 hw) (wd109 hw) (wd63 hw) (by decide) (wd110 hw) (wd34 hw) (rm14 l Z a0 hw [] l1 (1 : Int32) h293 n0 (by omega) f294) e293 f296 [] [] 21 0 (hb hby d13_16) rfl (by rw [hml]; rfl) rfl rfl (lenOf pd_8 rfl) rfl (by decide) fun v295 T295 Lc295 X295 hQ295 => ?_
  obtain ⟨hvc295, N295q, e295⟩ := hQ295
  have N295 := Fr.app N293 N295q
  rcases hvc295 with ⟨rfl, hp16⟩ | ⟨rfl, hp16⟩
  · exact absurd hp16 (by decide)
  · refine own_iN 24 X295 hx (hb hby d13_21) rfl ((if0 _ _).trans (teq (by decide : ((0 : Int32) = (0 : Int32)))).2) rfl ?_
    refine own_ru 25 [(.ref l2)] X295 hx hby e13_24_1 rfl rfl ?_
    have f297 := (Fld.other W293 ((Fld.ext E285 P7).keep K290 (own_nS (by omega) nin0)) (Or.inl (own_ne (by omega))))
    have f299 := (Exa.wr W293 (Exa.keep (Exa.ext E285 P6) K290))
    refine own_cI X295 hx hZ hown (wd111 hw) (wd112 hw) (mvT hZ (wd113 hw)) (wd114 hw) (wd115 hw) (wd116 hw) (wd117 hw) (wd63 hw) (by decide) (wd118 hw) (wd34 hw) (rm15 l Z a0 hw [] l2 (1 : Int32) h293 n0 (by omega) f297) e295 f299 [] [] 30 0 (hb hby d13_25) rfl (by rw [hml]; rfl) rfl rfl (lenOf pd_9 rfl) rfl (by decide) fun v298 T298 Lc298 X298 hQ298 => ?_
    obtain ⟨rfl, N298q, e298⟩ := hQ298
    have N298 := Fr.app N295 N298q
    refine own_ru 31 [(.ref l1), (.int (1 : Int32))] X298 hx hby e13_30_1 rfl rfl ?_
    refine own_cI X298 hx hZ hown (wd111 hw) (wd112 hw) (mvT hZ (wd113 hw)) (wd114 hw) (wd115 hw) (wd116 hw) (wd117 hw) (wd63 hw) (by decide) (wd118 hw) (wd34 hw) (rm15 l Z a0 hw [] l1 (1 : Int32) h293 n0 (by omega) f294) e298 f296 [] [(.int (1 : Int32))] 36 1 (hb hby d13_31) rfl (by rw [hml]; rfl) rfl rfl (lenOf pd_9 rfl) rfl (by decide) fun v300 T300 Lc300 X300 hQ300 => ?_
    obtain ⟨rfl, N300q, e300⟩ := hQ300
    have N300 := Fr.app N298 N300q
    refine own_kN 39 X300 hx (hb hby d13_36) rfl (teq (by decide : ((1 : Int32) = (1 : Int32)))).2 rfl ?_
    refine own_ru 40 [(.ref l3)] X300 hx hby e13_39_1 rfl rfl ?_
    have f301 := (Fld.other W293 ((Fld.ext E285 P11).keep K290 (own_nS (by omega) nin0)) (Or.inl (own_ne (by omega))))
    have f303 := (Exa.wr W293 (Exa.keep (Exa.ext E285 P10) K290))
    refine own_cI X300 hx hZ hown (wd111 hw) (wd112 hw) (mvT hZ (wd113 hw)) (wd114 hw) (wd115 hw) (wd116 hw) (wd117 hw) (wd63 hw) (by decide) (wd118 hw) (wd34 hw) (rm15 l Z a0 hw [] l3 (1 : Int32) h293 n0 (by omega) f301) e300 f303 [] [] 45 0 (hb hby d13_40) rfl (by rw [hml]; rfl) rfl rfl (lenOf pd_9 rfl) rfl (by decide) fun v302 T302 Lc302 X302 hQ302 => ?_
    obtain ⟨rfl, N302q, e302⟩ := hQ302
    have N302 := Fr.app N300 N302q
    refine own_ru 46 [(.ref l1), (.int (1 : Int32))] X302 hx hby e13_45_1 rfl rfl ?_
    refine own_cI X302 hx hZ hown (wd111 hw) (wd112 hw) (mvT hZ (wd113 hw)) (wd114 hw) (wd115 hw) (wd116 hw) (wd117 hw) (wd63 hw) (by decide) (wd118 hw) (wd34 hw) (rm15 l Z a0 hw [] l1 (1 : Int32) h293 n0 (by omega) f294) e302 f296 [] [(.int (1 : Int32))] 51 1 (hb hby d13_46) rfl (by rw [hml]; rfl) rfl rfl (lenOf pd_9 rfl) rfl (by decide) fun v304 T304 Lc304 X304 hQ304 => ?_
    obtain ⟨rfl, N304q, e304⟩ := hQ304
    have N304 := Fr.app N302 N304q
    refine own_ru 53 [(.int (0 : Int32)), (.int (1 : Int32))] X304 hx hby e13_51_2 rfl rfl ?_
    refine own_kN 56 X304 hx (hb hby d13_53) rfl (flt (by decide : ¬ ((1 : Int32) < (0 : Int32)))).1 rfl ?_
    refine own_ru 57 [(.ref l3)] X304 hx hby e13_56_1 rfl rfl ?_
    refine own_cI X304 hx hZ hown (wd111 hw) (wd112 hw) (mvT hZ (wd113 hw)) (wd114 hw) (wd115 hw) (wd116 hw) (wd117 hw) (wd63 hw) (by decide) (wd118 hw) (wd34 hw) (rm15 l Z a0 hw [] l3 (1 : Int32) h293 n0 (by omega) f301) e304 f303 [] [] 62 0 (hb hby d13_57) rfl (by rw [hml]; rfl) rfl rfl (lenOf pd_9 rfl) rfl (by decide) fun v305 T305 Lc305 X305 hQ305 => ?_
    obtain ⟨rfl, N305q, e305⟩ := hQ305
    have N305 := Fr.app N304 N305q
    refine own_ru 63 [(.ref l1), (.int (1 : Int32))] X305 hx hby e13_62_1 rfl rfl ?_
    refine own_cI X305 hx hZ hown (wd111 hw) (wd112 hw) (mvT hZ (wd113 hw)) (wd114 hw) (wd115 hw) (wd116 hw) (wd117 hw) (wd63 hw) (by decide) (wd118 hw) (wd34 hw) (rm15 l Z a0 hw [] l1 (1 : Int32) h293 n0 (by omega) f294) e305 f296 [] [(.int (1 : Int32))] 68 1 (hb hby d13_63) rfl (by rw [hml]; rfl) rfl rfl (lenOf pd_9 rfl) rfl (by decide) fun v306 T306 Lc306 X306 hQ306 => ?_
    obtain ⟨rfl, N306q, e306⟩ := hQ306
    have N306 := Fr.app N305 N306q
    refine own_kY 102 X306 hx (hb hby d13_68) rfl (flt (by decide : ¬ ((1 : Int32) < (1 : Int32)))).2.2.2 (by decide) (by decide) ?_
    refine own_rl 108 #[.val (.ref a1), .val (.ref l1), .val (.ref l2), .val (.ref l3), .val (.int (0 : Int32))] [(.ref l1), (.int (0 : Int32))] X306 hx hby e13_102_4 rfl rfl ?_
    refine own_cI X306 hx hZ hown (wd111 hw) (wd112 hw) (mvT hZ (wd113 hw)) (wd114 hw) (wd115 hw) (wd116 hw) (wd117 hw) (wd63 hw) (by decide) (wd118 hw) (wd34 hw) (rm15 l Z a0 hw [] l1 (1 : Int32) h293 n0 (by omega) f294) e306 f296 [] [(.int (0 : Int32))] 113 1 (hb hby d13_108) rfl (by rw [hml]; rfl) rfl rfl (lenOf pd_9 rfl) rfl (by decide) fun v307 T307 Lc307 X307 hQ307 => ?_
    obtain ⟨rfl, N307q, e307⟩ := hQ307
    have N307 := Fr.app N306 N307q
    refine own_kN 116 X307 hx (hb hby d13_113) rfl (tlt (by decide : ((0 : Int32) < (1 : Int32)))).2.1 rfl ?_
    refine own_ru 117 [(.ref a1)] X307 hx hby e13_116_1 rfl rfl ?_
    refine own_gF X307 hx hZ hown (host := "") (Or.inl (wd101 hw)) Via.refl e307 F293 120 rfl (hb hby d13_117) rfl fun T308 X308 e308 => ?_
    refine own_nO X308 hx hZ hown (wd119 hw) (wd120 hw) (wd121 hw) e308 123 (hb hby d13_120) rfl (by decide) (by decide) fun T309 h309 b309 g309 X309 e309 E309 A309 D309 UN309 => ?_
    have ll309 : @LT.lt Nat _ b309 (Array.size h309) := A309.lt
    have KK309 : Keep h0 h309 [a1] := KK293.ext E309
    have z309 := E309.1
    have F310 : fl9 Z h309 b309 .null := D309 (Or.inr (wd151 hw)) (ty := (.object "java/math/BigInteger")) (by decide)
    have F311 : fl10 Z h309 b309 .null := D309 (Or.inr (wd153 hw)) (ty := (.object "com/example/tariff/tariff/VoltageClass")) (by decide)
    have F312 : fl11 Z h309 b309 .null := D309 (Or.inr (wd155 hw)) (ty := (.object "java/math/BigInteger")) (by decide)
    have F313 : fl12 Z h309 b309 .null := D309 (Or.inr (wd157 hw)) (ty := (.object "java/math/BigInteger")) (by decide)
    refine own_ru 127 [(.int (0 : Int32)), (.ref l1), (.ref b309), (.ref b309), (.ref b285)] X309 hx hby e13_123_3 rfl rfl ?_
    have f314 := (Exa.ext E309 f296)
    have f315 := (Fld.ext E309 f294)
    have f316 := (Fld.ext E309 (Fld.other W293 ((Fld.ext E285 P4).keep K290 (own_nS (by omega) nin0)) (Or.inl (own_ne (by omega)))))
    have f317 := ((((P5.ext E285).keep K290 (own_nS (by omega) nin0)).other W293 (own_ne (by omega))).ext E309)
    refine own_cI X309 hx hZ hown (wd122 hw) (wd123 hw) (mvT hZ (wd124 hw)) (wd125 hw) (wd126 hw) (wd127 hw) (wd128 hw) (wd63 hw) (by decide) (wd129 hw) (wd34 hw) (rm16 l Z a0 hw [] l1 (0 : Int32) r1 q1 [(.ref vv), .null, .null, .null, .null, .null, .null, .null, .null, .null] vv (1 : Int32) h309 n0 (by omega) f314 f315 f316 f317 (by decide) (by decide) ⟨by decide, by decide⟩ rfl) e309 f314 [(.int (0 : Int32))] [(.ref b309), (.ref b309), (.ref b285)] 132 3 (hb hby d13_127) rfl (by rw [hml]; rfl) rfl rfl (lenOf pd_7 rfl) rfl (by decide) fun v318 T318 Lc318 X318 hQ318 => ?_
    obtain ⟨rfl, N318q, e318⟩ := hQ318
    have N318 := Fr.app N307 N318q
    have f319 := (Exa.ext E309 (Exa.wr W293 (Exa.keep (Exa.ext E285 P14) K290)))
    refine own_ca X318 hx hZ hown (wd143 hw) e318 (Ins.self f319) 135 rfl (hb hby d13_132) rfl fun T320 X320 e320 => ?_
    refine own_ru 138 [(.int (0 : Int32)), (.ref l2), (.ref vv), (.ref b309), (.ref b309), (.ref b285)] X320 hx hby e13_135_2 rfl rfl ?_
    have f321 := (Exa.ext E309 f299)
    have f322 := (Fld.ext E309 f297)
    have f323 := (Fld.ext E309 (Fld.other W293 ((Fld.ext E285 P8).keep K290 (own_nS (by omega) nin0)) (Or.inl (own_ne (by omega)))))
    have f324 := ((((P9.ext E285).keep K290 (own_nS (by omega) nin0)).other W293 (own_ne (by omega))).ext E309)
    refine own_cI X320 hx hZ hown (wd122 hw) (wd123 hw) (mvT hZ (wd124 hw)) (wd125 hw) (wd126 hw) (wd127 hw) (wd128 hw) (wd63 hw) (by decide) (wd129 hw) (wd34 hw) (rm16 l Z a0 hw [] l2 (0 : Int32) r2 q2 [(.ref vc0), .null, .null, .null, .null, .null, .null, .null, .null, .null] vc0 (1 : Int32) h309 n0 (by omega) f321 f322 f323 f324 (by decide) (by decide) ⟨by decide, by decide⟩ rfl) e320 f321 [(.int (0 : Int32))] [(.ref vv), (.ref b309), (.ref b309), (.ref b285)] 143 4 (hb hby d13_138) rfl (by rw [hml]; rfl) rfl rfl (lenOf pd_7 rfl) rfl (by decide) fun v325 T325 Lc325 X325 hQ325 => ?_
    obtain ⟨rfl, N325q, e325⟩ := hQ325
    have N325 := Fr.app N318 N325q
    have f326 := (Exa.ext E309 (Exa.wr W293 (Exa.keep (Exa.ext E285 P15) K290)))
    refine own_ca X325 hx hZ hown (wd144 hw) e325 (Ins.self f326) 146 rfl (hb hby d13_143) rfl fun T327 X327 e327 => ?_
    refine own_ru 148 [(.int (0 : Int32)), (.ref vc0), (.ref vv), (.ref b309), (.ref b309), (.ref b285)] X327 hx hby e13_146_1 rfl rfl ?_
    refine own_iN 151 X327 hx (hb hby d13_148) rfl ((if0 _ _).trans (teq (by decide : ((0 : Int32) = (0 : Int32)))).2) rfl ?_
    refine own_ru 152 [.null, (.ref vc0), (.ref vv), (.ref b309), (.ref b309), (.ref b285)] X327 hx hby e13_151_1 rfl rfl ?_
    refine own_go 168 X327 hx (hb hby d13_152) (by decide) (by decide) ?_
    refine own_ru 171 [(.ref l3), (.int (0 : Int32)), .null, (.ref vc0), (.ref vv), (.ref b309), (.ref b309), (.ref b285)] X327 hx hby e13_168_2 rfl rfl ?_
    have f328 := (Fld.ext E309 f301)
    have f330 := (Exa.ext E309 f303)
    refine own_cI X327 hx hZ hown (wd111 hw) (wd112 hw) (mvT hZ (wd113 hw)) (wd114 hw) (wd115 hw) (wd116 hw) (wd117 hw) (wd63 hw) (by decide) (wd118 hw) (wd34 hw) (rm15 l Z a0 hw [] l3 (1 : Int32) h309 n0 (by omega) f328) e327 f330 [] [(.int (0 : Int32)), .null, (.ref vc0), (.ref vv), (.ref b309), (.ref b309), (.ref b285)] 176 7 (hb hby d13_171) rfl (by rw [hml]; rfl) rfl rfl (lenOf pd_9 rfl) rfl (by decide) fun v329 T329 Lc329 X329 hQ329 => ?_
    obtain ⟨rfl, N329q, e329⟩ := hQ329
    have N329 := Fr.app N325 N329q
    refine own_kN 179 X329 hx (hb hby d13_176) rfl (tlt (by decide : ((0 : Int32) < (1 : Int32)))).2.1 rfl ?_
    refine own_ru 182 [(.int (0 : Int32)), (.ref l3), .null, (.ref vc0), (.ref vv), (.ref b309), (.ref b309), (.ref b285)] X329 hx hby e13_179_2 rfl rfl ?_
    have f331 := (Fld.ext E309 (Fld.other W293 ((Fld.ext E285 P12).keep K290 (own_nS (by omega) nin0)) (Or.inl (own_ne (by omega)))))
    have f332 := ((((P13.ext E285).keep K290 (own_nS (by omega) nin0)).other W293 (own_ne (by omega))).ext E309)
    refine own_cI X329 hx hZ hown (wd122 hw) (wd123 hw) (mvT hZ (wd124 hw)) (wd125 hw) (wd126 hw) (wd127 hw) (wd128 hw) (wd63 hw) (by decide) (wd129 hw) (wd34 hw) (rm16 l Z a0 hw [] l3 (0 : Int32) r3 q3 [(.ref vb0), .null, .null, .null, .null, .null, .null, .null, .null, .null] vb0 (1 : Int32) h309 n0 (by omega) f330 f328 f331 f332 (by decide) (by decide) ⟨by decide, by decide⟩ rfl) e329 f330 [(.int (0 : Int32))] [.null, (.ref vc0), (.ref vv), (.ref b309), (.ref b309), (.ref b285)] 187 6 (hb hby d13_182) rfl (by rw [hml]; rfl) rfl rfl (lenOf pd_7 rfl) rfl (by decide) fun v333 T333 Lc333 X333 hQ333 => ?_
    obtain ⟨rfl, N333q, e333⟩ := hQ333
    have N333 := Fr.app N329 N333q
    have f334 := (Exa.ext E309 (Exa.wr W293 (Exa.keep (Exa.ext E285 P16) K290)))
    refine own_ca X333 hx hZ hown (wd143 hw) e333 (Ins.self f334) 190 rfl (hb hby d13_187) rfl fun T335 X335 e335 => ?_
    refine own_go 194 X335 hx (hb hby d13_190) (by decide) (by decide) ?_
    refine own_cRi X335 hx hZ hown rfl (wd146 hw) (wd147 hw) (by decide) (wd148 hw) (wd121 hw) (rm20 l Z a0 hw [] b309 (.ref vv) (.ref vc0) (.null) (.ref vb0) h309 n0 (by omega) A309 F310 F311 F312 F313 (by omega) rfl rfl rfl rfl) e335  [(.ref vv), (.ref vc0), .null, (.ref vb0)] [(.ref b309), (.ref b285)] 197 2 (hb hby d13_194) rfl (by rw [hml]; rfl) rfl rfl (lenOf pd_10 rfl) rfl (by decide) fun v336 T336 Lc336 X336 hQ336 => ?_
    obtain ⟨rfl, N336q, K336, G336_0, G336_1, G336_2, G336_3, G336_4⟩ := hQ336
    have N336 := Fr.app N333 N336q
    have z336 := K336.1
    have KK336 : Keep h0 T336.heap [a1] := KK309.trans K336 (allS (Or.inr (by omega)) all0)
    have lt336_0 : @LT.lt Nat _ b309 (Array.size T336.heap) := G336_0.lt
    have f337 := ((((f289.keep K290 (allS (by omega) all0)).wr W293 (by omega)).ext E309).keep K336 (allS (by omega) all0))
    have f338 := (Exa.keep (Exa.ext E309 (Exa.wr W293 G290_0)) K336)
    have f339 := ((Fld.ext E309 (Fld.other W293 G290_1 (Or.inl (own_ne (by omega))))).keep K336 (own_nS (by omega) nin0))
    have f340 := ((Fld.ext E309 (Fld.other W293 G290_2 (Or.inl (own_ne (by omega))))).keep K336 (own_nS (by omega) nin0))
    have f341 := ((Fld.ext E309 (Fld.other W293 G290_3 (Or.inl (own_ne (by omega))))).keep K336 (own_nS (by omega) nin0))
    have f342 : Ins Z T336.heap b309 "java/lang/Object" true := (Ins.of_exa G336_0 (wd159 hw))
    refine own_cI X336 hx hZ hown (wd158 hw) (wd57 hw) (mvT hZ (wd58 hw)) (wd59 hw) (wd60 hw) (wd61 hw) (wd62 hw) (wd63 hw) (by decide) (wd64 hw) (wd34 hw) (rm8z l Z a0 hw [] o_EXTRA_HIGH o_HIGH o_ZERO o_DEF kDEF o_pos cl_pos o_neg cl_neg b285 b309 (0 : Int32) T336.heap n0 (by omega) f337 A f338 f339 f340 f341 f342 (by omega)) rfl f338 [(.ref b309)] [] 202 0 (hb hby d13_197) rfl (by rw [hml]; rfl) rfl rfl (lenOf pd_11 rfl) rfl (by decide) fun v343 T343 Lc343 X343 hQ343 => ?_
    obtain ⟨ar_343, kk_343, rfl, N343q, K343, G343_0, G343_1, G343_2, G343_3, G343_4, U343_0, U343_1⟩ := hQ343
    have N343 := Fr.app N336 N343q
    have z343 := K343.1
    have KK343 : Keep h0 T343.heap [a1] := KK336.trans K343 (allS (Or.inr (by omega)) all0)
    have lt343_0 : @LT.lt Nat _ b285 (Array.size T343.heap) := G343_0.lt
    have G343_1' : fl5 Z T343.heap b285 (.int (1 : Int32)) := G343_1
    have lt343_4 : @LT.lt Nat _ ar_343 (Array.size T343.heap) := G343_4.lt
    as_aux_lemma =>
      refine own_rl 206 #[.val (.ref a1), .val (.ref l1), .val (.ref l2), .val (.ref l3), .val (.int (1 : Int32))] [] X343 hx hby e13_202_2 rfl rfl ?_
      refine own_go 105 X343 hx (hb hby d13_206) (by decide) (by decide) ?_
      refine own_ru 108 [(.ref l1), (.int (1 : Int32))] X343 hx hby e13_105_2 rfl rfl ?_
      have f344 := ((f315.keep K336 (own_nS (by omega) nin0)).keep K343 (own_nS (by omega) nin0))
      have f346 := (Exa.keep (Exa.keep f314 K336) K343)
      refine own_cI X343 hx hZ hown (wd111 hw) (wd112 hw) (mvT hZ (wd113 hw)) (wd114 hw) (wd115 hw) (wd116 hw) (wd117 hw) (wd63 hw) (by decide) (wd118 hw) (wd34 hw) (rm15 l Z a0 hw [] l1 (1 : Int32) T343.heap n0 (by omega) f344) rfl f346 [] [(.int (1 : Int32))] 113 1 (hb hby d13_108) rfl (by rw [hml]; rfl) rfl rfl (lenOf pd_9 rfl) rfl (by decide) fun v345 T345 Lc345 X345 hQ345 => ?_
      obtain ⟨rfl, N345q, e345⟩ := hQ345
      have N345 := Fr.app N343 N345q
      refine own_kY 209 X345 hx (hb hby d13_113) rfl (flt (by decide : ¬ ((1 : Int32) < (1 : Int32)))).2.1 (by decide) (by decide) ?_
      have f348 := (Exa.keep (Exa.keep (Exa.ext E309 (Exa.wr W293 f291)) K336) K343)
      have f349 := (((Fld.ext E309 F293).keep K336 (own_nS (by omega) nin0)).keep K343 (own_nS (by omega) nin0))
      have f350 := (Exa.keep G336_0 K343)
      have f351 := (G336_4.keep K343 (own_nS (by omega) nin0))
      have hq347 : Q13t11 Z o_EXTRA_HIGH o_HIGH o_ZERO o_DEF kDEF o_pos cl_pos o_neg cl_neg a1 l1 l2 l3 r1 q1 r2 q2 r3 q3 vv vc0 vb0 h0 n0 none T343.heap _ := ⟨b285, ar_343, kk_343, b309, rfl, N345, KK343, f348, f349, G343_0, G343_2, G343_3, G343_4, f350, f351⟩
      exact own_retV X345 hx hlk hrt (hb hby d13_209) e345 hq347 (by decide) (by decide)
theorem d13_160 : decode prog_37_method_1_code 160 = .ok (.invokeinterface 37 2, 5) := by decide +kernel
theorem d13_165 : decode prog_37_method_1_code 165 = .ok (.checkcast 41, 3) := by decide +kernel
theorem e13_155_4 : own_dec prog_37_method_1_code 155 [(.aload_n 3, 1), (.iload 4, 2), (.iconst 1, 1), (.isub, 1)] = true := by decide +kernel
def Q13t21 (Z : State) (o_EXTRA_HIGH : Addr) (o_HIGH : Addr) (o_ZERO : Addr) (o_DEF : Addr) (kDEF : ClassId) (o_pos : Addr) (cl_pos : Cell) (o_neg : Addr) (cl_neg : Cell) (a1 : Addr) (l1 : Addr) (l2 : Addr) (l3 : Addr) (r1 : Addr) (q1 : ClassId) (r2 : Addr) (q2 : ClassId) (r3 : Addr) (q3 : ClassId) (vv : Addr) (vc0 : Addr) (vc1 : Addr) (vb0 : Addr) (h0 : Heap) (n0 : Nat) (v : Option Value) (h : Heap) (L : List Loc) : Prop := ∃ vl : Addr, ∃ ra : Addr, ∃ kr : ClassId, ∃ vo0 : Addr, ∃ vo1 : Addr, v = none ∧ Fr n0 L ∧ Keep h0 h [a1] ∧ ex13 Z h a1 ∧ fl14 Z h a1 (.ref vl) ∧ ex4 Z h vl ∧ fl6 Z h vl (.int (2 : Int32)) ∧ fl7 Z h vl (.ref ra) ∧ Arv Z h ra kr (.object "java/lang/Object") (10 : Int32) [(.ref vo0), (.ref vo1), .null, .null, .null, .null, .null, .null, .null, .null] .null ∧ ex8 Z h vo1 ∧ fl12 Z h vo1 .null
set_option maxRecDepth 65536 in
set_option maxHeartbeats 40000000 in
theorem rm13t21 (l : Launch) (Z : State) (a0 : Array Value) (hw : OW a0 Z) (ws : List Jvm.Cond) (o_EXTRA_HIGH : Addr) (o_HIGH : Addr) (o_ZERO : Addr) (o_DEF : Addr) (kDEF : ClassId) (o_pos : Addr) (cl_pos : Cell) (o_neg : Addr) (cl_neg : Cell) (a1 : Addr) (l1 : Addr) (l2 : Addr) (l3 : Addr) (r1 : Addr) (q1 : ClassId) (r2 : Addr) (q2 : ClassId) (r3 : Addr) (q3 : ClassId) (vv : Addr) (vc0 : Addr) (vc1 : Addr) (vb0 : Addr) (h0 : Heap) (n0 : Nat) (Z0 : n0 ≤ h0.size) (OLD : Old Z n0 h0) (A : Amb Z o_EXTRA_HIGH o_HIGH o_ZERO o_DEF kDEF o_pos cl_pos o_neg cl_neg) (P0 : ex13 Z h0 a1) (P1 : fl14 Z h0 a1 .null) (P2 : ex4 Z h0 l1) (P3 : fl6 Z h0 l1 (.int (2 : Int32))) (P4 : fl7 Z h0 l1 (.ref r1)) (P5 : Arv Z h0 r1 q1 (.object "java/lang/Object") (10 : Int32) [(.ref vv), (.ref vv), .null, .null, .null, .null, .null, .null, .null, .null] .null) (P6 : ex4 Z h0 l2) (P7 : fl6 Z h0 l2 (.int (2 : Int32))) (P8 : fl7 Z h0 l2 (.ref r2)) (P9 : Arv Z h0 r2 q2 (.object "java/lang/Object") (10 : Int32) [(.ref vc0), (.ref vc1), .null, .null, .null, .null, .null, .null, .null, .null] .null) (P10 : ex4 Z h0 l3) (P11 : fl6 Z h0 l3 (.int (1 : Int32))) (P12 : fl7 Z h0 l3 (.ref r3)) (P13 : Arv Z h0 r3 q3 (.object "java/lang/Object") (10 : Int32) [(.ref vb0), .null, .null, .null, .null, .null, .null, .null, .null, .null] .null) (P14 : ex1 Z h0 vv) (P15 : ex0 Z h0 vc0) (P16 : ex0 Z h0 vc1) (P17 : ex1 Z h0 vb0) (g_a1 : n0 ≤ a1) (hd0 : @Ne Nat a1 l1) (hd1 : @Ne Nat a1 l2) (hd2 : @Ne Nat a1 l3) (hd3 : @Ne Nat a1 r1) (hd4 : @Ne Nat a1 r2) (hd5 : @Ne Nat a1 r3) :
    own_Met l my13 prog_37_method_1_code 5 none ws (own_rm 5 4 21 69) #[(.ref a1), (.ref l1), (.ref l2), (.ref l3)] Z h0 (Q13t21 Z o_EXTRA_HIGH o_HIGH o_ZERO o_DEF kDEF o_pos cl_pos o_neg cl_neg a1 l1 l2 l3 r1 q1 r2 q2 r3 q3 vv vc0 vc1 vb0 h0 n0) 4 21 := by
  refine own_body (plainFor_of_name pn_8) (fun m => by first | (simp [entryFrame, mkF, argsToLocals, Value.category]; done) | rfl) (Ls := #[.val (.ref a1), .val (.ref l1), .val (.ref l2), .val (.ref l3), .unset]) fun p e s m below meth c s₁ X0 hx hby hml hZ e0 hown hnm hlk hrt => ?_
  have N0 := Fr.nil n0
  have lt_P0 : @LT.lt Nat _ a1 (Array.size h0) := P0.lt
  have lt_P2 : @LT.lt Nat _ l1 (Array.size h0) := P2.lt
  have lt_P5 : @LT.lt Nat _ r1 (Array.size h0) := P5.lt
  have lt_P6 : @LT.lt Nat _ l2 (Array.size h0) := P6.lt
  have lt_P9 : @LT.lt Nat _ r2 (Array.size h0) := P9.lt
  have lt_P10 : @LT.lt Nat _ l3 (Array.size h0) := P10.lt
  have lt_P13 : @LT.lt Nat _ r3 (Array.size h0) := P13.lt
  have lt_P14 : @LT.lt Nat _ vv (Array.size h0) := P14.lt
  have lt_P15 : @LT.lt Nat _ vc0 (Array.size h0) := P15.lt
  have lt_P16 : @LT.lt Nat _ vc1 (Array.size h0) := P16.lt
  have lt_P17 : @LT.lt Nat _ vb0 (Array.size h0) := P17.lt
  refine own_ru 1 [(.ref a1)] X0 hx hby e13_0_1 rfl rfl ?_
  refine own_iO X0 hx hZ hown (wd98 hw) (wd22 hw) (wd23 hw) e0 4 0 (by rw [hml]; rfl) rfl (hb hby d13_1) rfl (by decide) rfl (by decide) fun T352 X352 e352 => ?_
  refine own_ru 5 [(.ref a1)] X352 hx hby e13_4_1 rfl rfl ?_
  refine own_nO X352 hx hZ hown (wd99 hw) (wd33 hw) (wd34 hw) e352 8 (hb hby d13_5) rfl (by decide) (by decide) fun T353 h353 b353 g353 X353 e353 E353 A353 D353 UN353 => ?_
  have ll353 : @LT.lt Nat _ b353 (Array.size h353) := A353.lt
  have KK353 : Keep h0 h353 [a1] := (Keep.refl h0 [a1]).ext E353
  have z353 := E353.1
  have F354 : fl5 Z h353 b353 (.int (0 : Int32)) := D353 (Or.inl (wd52 hw)) (ty := .int) (by decide)
  have F355 : fl7 Z h353 b353 .null := D353 (Or.inl (wd55 hw)) (ty := (.array (.object "java/lang/Object"))) (by decide)
  have F356 : fl6 Z h353 b353 (.int (0 : Int32)) := D353 (Or.inl (wd68 hw)) (ty := .int) (by decide)
  refine own_ru 9 [(.ref b353), (.ref b353), (.ref a1)] X353 hx hby e13_8_1 rfl rfl ?_
  have f357 := (OLD.ext E353)
  refine own_cN X353 hx hZ hown rfl (wd100 hw) (wd36 hw) (by decide) (wd37 hw) (wd34 hw) (rm5 l Z a0 hw [] o_EXTRA_HIGH o_HIGH o_ZERO o_DEF kDEF o_pos cl_pos o_neg cl_neg b353 h353 n0 (by omega) f357 A A353 F354 F356 F355 (by omega)) e353  [] [(.ref b353), (.ref a1)] 12 2 (hb hby d13_9) rfl (by rw [hml]; rfl) rfl rfl (lenOf pd_0 rfl) rfl (by decide) fun v358 T358 Lc358 X358 hQ358 => ?_
  obtain ⟨rfl, N358q, K358, G358_0, G358_1, G358_2, G358_3⟩ := hQ358
  have N358 := Fr.app N0 N358q
  have z358 := K358.1
  have KK358 : Keep h0 T358.heap [a1] := KK353.trans K358 (allS (Or.inr (by omega)) all0)
  have lt358_0 : @LT.lt Nat _ b353 (Array.size T358.heap) := G358_0.lt
  have f359 := (Exa.keep (Exa.ext E353 P0) K358)
  have f360 := ((Fld.ext E353 P1).keep K358 (own_nS (by omega) nin0))
  refine own_pF X358 hx hZ hown (host := "") (Or.inl (wd101 hw)) Via.refl rfl f360 f359 (Or.inr ⟨(wd102 hw), rfl, hnm⟩) (wd93 hw) (ty := (.object "java/util/List")) (by decide) rfl rfl 15 rfl (hb hby d13_12) rfl fun T361 h361 X361 e361 W361 => ?_
  have F361 := Fld.same W361 f360
  have z361 := W361.size
  have KK361 : Keep h0 h361 [a1] := KK358.wr W361 (Or.inl (by simp))
  have N361 := Fr.snoc X361 N358 (by omega)
  refine own_ru 16 [(.ref l1)] X361 hx hby e13_15_1 rfl rfl ?_
  have f362 := (Fld.other W361 ((Fld.ext E353 P3).keep K358 (own_nS (by omega) nin0)) (Or.inl (own_ne (by omega))))
  have f364 := (Exa.wr W361 (Exa.keep (Exa.ext E353 P2) K358))
  refine own_cI X361 hx hZ hown (wd103 hw) (wd104 hw) (mvT hZ (wd105 hw)) (wd106 hw) (wd107 hw) (wd108 hw) (wd109 hw) (wd63 hw) (by decide) (wd110 hw) (wd34 hw) (rm14 l Z a0 hw [] l1 (2 : Int32) h361 n0 (by omega) f362) e361 f364 [] [] 21 0 (hb hby d13_16) rfl (by rw [hml]; rfl) rfl rfl (lenOf pd_8 rfl) rfl (by decide) fun v363 T363 Lc363 X363 hQ363 => ?_
  obtain ⟨hvc363, N363q, e363⟩ := hQ363
  have N363 := Fr.app N361 N363q
  rcases hvc363 with ⟨rfl, hp16⟩ | ⟨rfl, hp16⟩
  · exact absurd hp16 (by decide)
  · refine own_iN 24 X363 hx (hb hby d13_21) rfl ((if0 _ _).trans (teq (by decide : ((0 : Int32) = (0 : Int32)))).2) rfl ?_
    refine own_ru 25 [(.ref l2)] X363 hx hby e13_24_1 rfl rfl ?_
    have f365 := (Fld.other W361 ((Fld.ext E353 P7).keep K358 (own_nS (by omega) nin0)) (Or.inl (own_ne (by omega))))
    have f367 := (Exa.wr W361 (Exa.keep (Exa.ext E353 P6) K358))
    refine own_cI X363 hx hZ hown (wd111 hw) (wd112 hw) (mvT hZ (wd113 hw)) (wd114 hw) (wd115 hw) (wd116 hw) (wd117 hw) (wd63 hw) (by decide) (wd118 hw) (wd34 hw) (rm15 l Z a0 hw [] l2 (2 : Int32) h361 n0 (by omega) f365) e363 f367 [] [] 30 0 (hb hby d13_25) rfl (by rw [hml]; rfl) rfl rfl (lenOf pd_9 rfl) rfl (by decide) fun v366 T366 Lc366 X366 hQ366 => ?_
    obtain ⟨rfl, N366q, e366⟩ := hQ366
    have N366 := Fr.app N363 N366q
    refine own_ru 31 [(.ref l1), (.int (2 : Int32))] X366 hx hby e13_30_1 rfl rfl ?_
    refine own_cI X366 hx hZ hown (wd111 hw) (wd112 hw) (mvT hZ (wd113 hw)) (wd114 hw) (wd115 hw) (wd116 hw) (wd117 hw) (wd63 hw) (by decide) (wd118 hw) (wd34 hw) (rm15 l Z a0 hw [] l1 (2 : Int32) h361 n0 (by omega) f362) e366 f364 [] [(.int (2 : Int32))] 36 1 (hb hby d13_31) rfl (by rw [hml]; rfl) rfl rfl (lenOf pd_9 rfl) rfl (by decide) fun v368 T368 Lc368 X368 hQ368 => ?_
    obtain ⟨rfl, N368q, e368⟩ := hQ368
    have N368 := Fr.app N366 N368q
    refine own_kN 39 X368 hx (hb hby d13_36) rfl (teq (by decide : ((2 : Int32) = (2 : Int32)))).2 rfl ?_
    refine own_ru 40 [(.ref l3)] X368 hx hby e13_39_1 rfl rfl ?_
    have f369 := (Fld.other W361 ((Fld.ext E353 P11).keep K358 (own_nS (by omega) nin0)) (Or.inl (own_ne (by omega))))
    have f371 := (Exa.wr W361 (Exa.keep (Exa.ext E353 P10) K358))
    refine own_cI X368 hx hZ hown (wd111 hw) (wd112 hw) (mvT hZ (wd113 hw)) (wd114 hw) (wd115 hw) (wd116 hw) (wd117 hw) (wd63 hw) (by decide) (wd118 hw) (wd34 hw) (rm15 l Z a0 hw [] l3 (1 : Int32) h361 n0 (by omega) f369) e368 f371 [] [] 45 0 (hb hby d13_40) rfl (by rw [hml]; rfl) rfl rfl (lenOf pd_9 rfl) rfl (by decide) fun v370 T370 Lc370 X370 hQ370 => ?_
    obtain ⟨rfl, N370q, e370⟩ := hQ370
    have N370 := Fr.app N368 N370q
    refine own_ru 46 [(.ref l1), (.int (1 : Int32))] X370 hx hby e13_45_1 rfl rfl ?_
    refine own_cI X370 hx hZ hown (wd111 hw) (wd112 hw) (mvT hZ (wd113 hw)) (wd114 hw) (wd115 hw) (wd116 hw) (wd117 hw) (wd63 hw) (by decide) (wd118 hw) (wd34 hw) (rm15 l Z a0 hw [] l1 (2 : Int32) h361 n0 (by omega) f362) e370 f364 [] [(.int (1 : Int32))] 51 1 (hb hby d13_46) rfl (by rw [hml]; rfl) rfl rfl (lenOf pd_9 rfl) rfl (by decide) fun v372 T372 Lc372 X372 hQ372 => ?_
    obtain ⟨rfl, N372q, e372⟩ := hQ372
    have N372 := Fr.app N370 N372q
    refine own_ru 53 [(.int (1 : Int32)), (.int (1 : Int32))] X372 hx hby e13_51_2 rfl rfl ?_
    refine own_kN 56 X372 hx (hb hby d13_53) rfl (flt (by decide : ¬ ((1 : Int32) < (1 : Int32)))).1 rfl ?_
    refine own_ru 57 [(.ref l3)] X372 hx hby e13_56_1 rfl rfl ?_
    refine own_cI X372 hx hZ hown (wd111 hw) (wd112 hw) (mvT hZ (wd113 hw)) (wd114 hw) (wd115 hw) (wd116 hw) (wd117 hw) (wd63 hw) (by decide) (wd118 hw) (wd34 hw) (rm15 l Z a0 hw [] l3 (1 : Int32) h361 n0 (by omega) f369) e372 f371 [] [] 62 0 (hb hby d13_57) rfl (by rw [hml]; rfl) rfl rfl (lenOf pd_9 rfl) rfl (by decide) fun v373 T373 Lc373 X373 hQ373 => ?_
    obtain ⟨rfl, N373q, e373⟩ := hQ373
    have N373 := Fr.app N372 N373q
    refine own_ru 63 [(.ref l1), (.int (1 : Int32))] X373 hx hby e13_62_1 rfl rfl ?_
    refine own_cI X373 hx hZ hown (wd111 hw) (wd112 hw) (mvT hZ (wd113 hw)) (wd114 hw) (wd115 hw) (wd116 hw) (wd117 hw) (wd63 hw) (by decide) (wd118 hw) (wd34 hw) (rm15 l Z a0 hw [] l1 (2 : Int32) h361 n0 (by omega) f362) e373 f364 [] [(.int (1 : Int32))] 68 1 (hb hby d13_63) rfl (by rw [hml]; rfl) rfl rfl (lenOf pd_9 rfl) rfl (by decide) fun v374 T374 Lc374 X374 hQ374 => ?_
    obtain ⟨rfl, N374q, e374⟩ := hQ374
    have N374 := Fr.app N373 N374q
    refine own_kY 102 X374 hx (hb hby d13_68) rfl (flt (by decide : ¬ ((2 : Int32) < (1 : Int32)))).2.2.2 (by decide) (by decide) ?_
    refine own_rl 108 #[.val (.ref a1), .val (.ref l1), .val (.ref l2), .val (.ref l3), .val (.int (0 : Int32))] [(.ref l1), (.int (0 : Int32))] X374 hx hby e13_102_4 rfl rfl ?_
    refine own_cI X374 hx hZ hown (wd111 hw) (wd112 hw) (mvT hZ (wd113 hw)) (wd114 hw) (wd115 hw) (wd116 hw) (wd117 hw) (wd63 hw) (by decide) (wd118 hw) (wd34 hw) (rm15 l Z a0 hw [] l1 (2 : Int32) h361 n0 (by omega) f362) e374 f364 [] [(.int (0 : Int32))] 113 1 (hb hby d13_108) rfl (by rw [hml]; rfl) rfl rfl (lenOf pd_9 rfl) rfl (by decide) fun v375 T375 Lc375 X375 hQ375 => ?_
    obtain ⟨rfl, N375q, e375⟩ := hQ375
    have N375 := Fr.app N374 N375q
    refine own_kN 116 X375 hx (hb hby d13_113) rfl (tlt (by decide : ((0 : Int32) < (2 : Int32)))).2.1 rfl ?_
    refine own_ru 117 [(.ref a1)] X375 hx hby e13_116_1 rfl rfl ?_
    refine own_gF X375 hx hZ hown (host := "") (Or.inl (wd101 hw)) Via.refl e375 F361 120 rfl (hb hby d13_117) rfl fun T376 X376 e376 => ?_
    refine own_nO X376 hx hZ hown (wd119 hw) (wd120 hw) (wd121 hw) e376 123 (hb hby d13_120) rfl (by decide) (by decide) fun T377 h377 b377 g377 X377 e377 E377 A377 D377 UN377 => ?_
    have ll377 : @LT.lt Nat _ b377 (Array.size h377) := A377.lt
    have KK377 : Keep h0 h377 [a1] := KK361.ext E377
    have z377 := E377.1
    have F378 : fl9 Z h377 b377 .null := D377 (Or.inr (wd151 hw)) (ty := (.object "java/math/BigInteger")) (by decide)
    have F379 : fl10 Z h377 b377 .null := D377 (Or.inr (wd153 hw)) (ty := (.object "com/example/tariff/tariff/VoltageClass")) (by decide)
    have F380 : fl11 Z h377 b377 .null := D377 (Or.inr (wd155 hw)) (ty := (.object "java/math/BigInteger")) (by decide)
    have F381 : fl12 Z h377 b377 .null := D377 (Or.inr (wd157 hw)) (ty := (.object "java/math/BigInteger")) (by decide)
    refine own_ru 127 [(.int (0 : Int32)), (.ref l1), (.ref b377), (.ref b377), (.ref b353)] X377 hx hby e13_123_3 rfl rfl ?_
    have f382 := (Exa.ext E377 f364)
    have f383 := (Fld.ext E377 f362)
    have f384 := (Fld.ext E377 (Fld.other W361 ((Fld.ext E353 P4).keep K358 (own_nS (by omega) nin0)) (Or.inl (own_ne (by omega)))))
    have f385 := ((((P5.ext E353).keep K358 (own_nS (by omega) nin0)).other W361 (own_ne (by omega))).ext E377)
    refine own_cI X377 hx hZ hown (wd122 hw) (wd123 hw) (mvT hZ (wd124 hw)) (wd125 hw) (wd126 hw) (wd127 hw) (wd128 hw) (wd63 hw) (by decide) (wd129 hw) (wd34 hw) (rm16 l Z a0 hw [] l1 (0 : Int32) r1 q1 [(.ref vv), (.ref vv), .null, .null, .null, .null, .null, .null, .null, .null] vv (2 : Int32) h377 n0 (by omega) f382 f383 f384 f385 (by decide) (by decide) ⟨by decide, by decide⟩ rfl) e377 f382 [(.int (0 : Int32))] [(.ref b377), (.ref b377), (.ref b353)] 132 3 (hb hby d13_127) rfl (by rw [hml]; rfl) rfl rfl (lenOf pd_7 rfl) rfl (by decide) fun v386 T386 Lc386 X386 hQ386 => ?_
    obtain ⟨rfl, N386q, e386⟩ := hQ386
    have N386 := Fr.app N375 N386q
    have f387 := (Exa.ext E377 (Exa.wr W361 (Exa.keep (Exa.ext E353 P14) K358)))
    refine own_ca X386 hx hZ hown (wd143 hw) e386 (Ins.self f387) 135 rfl (hb hby d13_132) rfl fun T388 X388 e388 => ?_
    refine own_ru 138 [(.int (0 : Int32)), (.ref l2), (.ref vv), (.ref b377), (.ref b377), (.ref b353)] X388 hx hby e13_135_2 rfl rfl ?_
    have f389 := (Exa.ext E377 f367)
    have f390 := (Fld.ext E377 f365)
    have f391 := (Fld.ext E377 (Fld.other W361 ((Fld.ext E353 P8).keep K358 (own_nS (by omega) nin0)) (Or.inl (own_ne (by omega)))))
    have f392 := ((((P9.ext E353).keep K358 (own_nS (by omega) nin0)).other W361 (own_ne (by omega))).ext E377)
    refine own_cI X388 hx hZ hown (wd122 hw) (wd123 hw) (mvT hZ (wd124 hw)) (wd125 hw) (wd126 hw) (wd127 hw) (wd128 hw) (wd63 hw) (by decide) (wd129 hw) (wd34 hw) (rm16 l Z a0 hw [] l2 (0 : Int32) r2 q2 [(.ref vc0), (.ref vc1), .null, .null, .null, .null, .null, .null, .null, .null] vc0 (2 : Int32) h377 n0 (by omega) f389 f390 f391 f392 (by decide) (by decide) ⟨by decide, by decide⟩ rfl) e388 f389 [(.int (0 : Int32))] [(.ref vv), (.ref b377), (.ref b377), (.ref b353)] 143 4 (hb hby d13_138) rfl (by rw [hml]; rfl) rfl rfl (lenOf pd_7 rfl) rfl (by decide) fun v393 T393 Lc393 X393 hQ393 => ?_
    obtain ⟨rfl, N393q, e393⟩ := hQ393
    have N393 := Fr.app N386 N393q
    have f394 := (Exa.ext E377 (Exa.wr W361 (Exa.keep (Exa.ext E353 P15) K358)))
    refine own_ca X393 hx hZ hown (wd144 hw) e393 (Ins.self f394) 146 rfl (hb hby d13_143) rfl fun T395 X395 e395 => ?_
    refine own_ru 148 [(.int (0 : Int32)), (.ref vc0), (.ref vv), (.ref b377), (.ref b377), (.ref b353)] X395 hx hby e13_146_1 rfl rfl ?_
    refine own_iN 151 X395 hx (hb hby d13_148) rfl ((if0 _ _).trans (teq (by decide : ((0 : Int32) = (0 : Int32)))).2) rfl ?_
    refine own_ru 152 [.null, (.ref vc0), (.ref vv), (.ref b377), (.ref b377), (.ref b353)] X395 hx hby e13_151_1 rfl rfl ?_
    refine own_go 168 X395 hx (hb hby d13_152) (by decide) (by decide) ?_
    refine own_ru 171 [(.ref l3), (.int (0 : Int32)), .null, (.ref vc0), (.ref vv), (.ref b377), (.ref b377), (.ref b353)] X395 hx hby e13_168_2 rfl rfl ?_
    have f396 := (Fld.ext E377 f369)
    have f398 := (Exa.ext E377 f371)
    refine own_cI X395 hx hZ hown (wd111 hw) (wd112 hw) (mvT hZ (wd113 hw)) (wd114 hw) (wd115 hw) (wd116 hw) (wd117 hw) (wd63 hw) (by decide) (wd118 hw) (wd34 hw) (rm15 l Z a0 hw [] l3 (1 : Int32) h377 n0 (by omega) f396) e395 f398 [] [(.int (0 : Int32)), .null, (.ref vc0), (.ref vv), (.ref b377), (.ref b377), (.ref b353)] 176 7 (hb hby d13_171) rfl (by rw [hml]; rfl) rfl rfl (lenOf pd_9 rfl) rfl (by decide) fun v397 T397 Lc397 X397 hQ397 => ?_
    obtain ⟨rfl, N397q, e397⟩ := hQ397
    have N397 := Fr.app N393 N397q
    refine own_kN 179 X397 hx (hb hby d13_176) rfl (tlt (by decide : ((0 : Int32) < (1 : Int32)))).2.1 rfl ?_
    refine own_ru 182 [(.int (0 : Int32)), (.ref l3), .null, (.ref vc0), (.ref vv), (.ref b377), (.ref b377), (.ref b353)] X397 hx hby e13_179_2 rfl rfl ?_
    have f399 := (Fld.ext E377 (Fld.other W361 ((Fld.ext E353 P12).keep K358 (own_nS (by omega) nin0)) (Or.inl (own_ne (by omega)))))
    have f400 := ((((P13.ext E353).keep K358 (own_nS (by omega) nin0)).other W361 (own_ne (by omega))).ext E377)
    refine own_cI X397 hx hZ hown (wd122 hw) (wd123 hw) (mvT hZ (wd124 hw)) (wd125 hw) (wd126 hw) (wd127 hw) (wd128 hw) (wd63 hw) (by decide) (wd129 hw) (wd34 hw) (rm16 l Z a0 hw [] l3 (0 : Int32) r3 q3 [(.ref vb0), .null, .null, .null, .null, .null, .null, .null, .null, .null] vb0 (1 : Int32) h377 n0 (by omega) f398 f396 f399 f400 (by decide) (by decide) ⟨by decide, by decide⟩ rfl) e397 f398 [(.int (0 : Int32))] [.null, (.ref vc0), (.ref vv), (.ref b377), (.ref b377), (.ref b353)] 187 6 (hb hby d13_182) rfl (by rw [hml]; rfl) rfl rfl (lenOf pd_7 rfl) rfl (by decide) fun v401 T401 Lc401 X401 hQ401 => ?_
    obtain ⟨rfl, N401q, e401⟩ := hQ401
    have N401 := Fr.app N397 N401q
    have f402 := (Exa.ext E377 (Exa.wr W361 (Exa.keep (Exa.ext E353 P17) K358)))
    refine own_ca X401 hx hZ hown (wd143 hw) e401 (Ins.self f402) 190 rfl (hb hby d13_187) rfl fun T403 X403 e403 => ?_
    refine own_go 194 X403 hx (hb hby d13_190) (by decide) (by decide) ?_
    refine own_cRi X403 hx hZ hown rfl (wd146 hw) (wd147 hw) (by decide) (wd148 hw) (wd121 hw) (rm20 l Z a0 hw [] b377 (.ref vv) (.ref vc0) (.null) (.ref vb0) h377 n0 (by omega) A377 F378 F379 F380 F381 (by omega) rfl rfl rfl rfl) e403  [(.ref vv), (.ref vc0), .null, (.ref vb0)] [(.ref b377), (.ref b353)] 197 2 (hb hby d13_194) rfl (by rw [hml]; rfl) rfl rfl (lenOf pd_10 rfl) rfl (by decide) fun v404 T404 Lc404 X404 hQ404 => ?_
    obtain ⟨rfl, N404q, K404, G404_0, G404_1, G404_2, G404_3, G404_4⟩ := hQ404
    have N404 := Fr.app N401 N404q
    have z404 := K404.1
    have KK404 : Keep h0 T404.heap [a1] := KK377.trans K404 (allS (Or.inr (by omega)) all0)
    have lt404_0 : @LT.lt Nat _ b377 (Array.size T404.heap) := G404_0.lt
    have f405 := ((((f357.keep K358 (allS (by omega) all0)).wr W361 (by omega)).ext E377).keep K404 (allS (by omega) all0))
    have f406 := (Exa.keep (Exa.ext E377 (Exa.wr W361 G358_0)) K404)
    have f407 := ((Fld.ext E377 (Fld.other W361 G358_1 (Or.inl (own_ne (by omega))))).keep K404 (own_nS (by omega) nin0))
    have f408 := ((Fld.ext E377 (Fld.other W361 G358_2 (Or.inl (own_ne (by omega))))).keep K404 (own_nS (by omega) nin0))
    have f409 := ((Fld.ext E377 (Fld.other W361 G358_3 (Or.inl (own_ne (by omega))))).keep K404 (own_nS (by omega) nin0))
    have f410 : Ins Z T404.heap b377 "java/lang/Object" true := (Ins.of_exa G404_0 (wd159 hw))
    refine own_cI X404 hx hZ hown (wd158 hw) (wd57 hw) (mvT hZ (wd58 hw)) (wd59 hw) (wd60 hw) (wd61 hw) (wd62 hw) (wd63 hw) (by decide) (wd64 hw) (wd34 hw) (rm8z l Z a0 hw [] o_EXTRA_HIGH o_HIGH o_ZERO o_DEF kDEF o_pos cl_pos o_neg cl_neg b353 b377 (0 : Int32) T404.heap n0 (by omega) f405 A f406 f407 f408 f409 f410 (by omega)) rfl f406 [(.ref b377)] [] 202 0 (hb hby d13_197) rfl (by rw [hml]; rfl) rfl rfl (lenOf pd_11 rfl) rfl (by decide) fun v411 T411 Lc411 X411 hQ411 => ?_
    obtain ⟨ar_411, kk_411, rfl, N411q, K411, G411_0, G411_1, G411_2, G411_3, G411_4, U411_0, U411_1⟩ := hQ411
    have N411 := Fr.app N404 N411q
    have z411 := K411.1
    have KK411 : Keep h0 T411.heap [a1] := KK404.trans K411 (allS (Or.inr (by omega)) all0)
    have lt411_0 : @LT.lt Nat _ b353 (Array.size T411.heap) := G411_0.lt
    have G411_1' : fl5 Z T411.heap b353 (.int (1 : Int32)) := G411_1
    have lt411_4 : @LT.lt Nat _ ar_411 (Array.size T411.heap) := G411_4.lt
    as_aux_lemma =>
      refine own_rl 206 #[.val (.ref a1), .val (.ref l1), .val (.ref l2), .val (.ref l3), .val (.int (1 : Int32))] [] X411 hx hby e13_202_2 rfl rfl ?_
      refine own_go 105 X411 hx (hb hby d13_206) (by decide) (by decide) ?_
      refine own_ru 108 [(.ref l1), (.int (1 : Int32))] X411 hx hby e13_105_2 rfl rfl ?_
      have f412 := ((f383.keep K404 (own_nS (by omega) nin0)).keep K411 (own_nS (by omega) nin0))
      have f414 := (Exa.keep (Exa.keep f382 K404) K411)
      refine own_cI X411 hx hZ hown (wd111 hw) (wd112 hw) (mvT hZ (wd113 hw)) (wd114 hw) (wd115 hw) (wd116 hw) (wd117 hw) (wd63 hw) (by decide) (wd118 hw) (wd34 hw) (rm15 l Z a0 hw [] l1 (2 : Int32) T411.heap n0 (by omega) f412) rfl f414 [] [(.int (1 : Int32))] 113 1 (hb hby d13_108) rfl (by rw [hml]; rfl) rfl rfl (lenOf pd_9 rfl) rfl (by decide) fun v413 T413 Lc413 X413 hQ413 => ?_
      obtain ⟨rfl, N413q, e413⟩ := hQ413
      have N413 := Fr.app N411 N413q
      refine own_kN 116 X413 hx (hb hby d13_113) rfl (tlt (by decide : ((1 : Int32) < (2 : Int32)))).2.1 rfl ?_
      refine own_ru 117 [(.ref a1)] X413 hx hby e13_116_1 rfl rfl ?_
      have f415 := (((Fld.ext E377 F361).keep K404 (own_nS (by omega) nin0)).keep K411 (own_nS (by omega) nin0))
      refine own_gF X413 hx hZ hown (host := "") (Or.inl (wd101 hw)) Via.refl e413 f415 120 rfl (hb hby d13_117) rfl fun T416 X416 e416 => ?_
      refine own_nO X416 hx hZ hown (wd119 hw) (wd120 hw) (wd121 hw) e416 123 (hb hby d13_120) rfl (by decide) (by decide) fun T417 h417 b417 g417 X417 e417 E417 A417 D417 UN417 => ?_
      have ll417 : @LT.lt Nat _ b417 (Array.size h417) := A417.lt
      have KK417 : Keep h0 h417 [a1] := KK411.ext E417
      have z417 := E417.1
      have F418 : fl9 Z h417 b417 .null := D417 (Or.inr (wd151 hw)) (ty := (.object "java/math/BigInteger")) (by decide)
      have F419 : fl10 Z h417 b417 .null := D417 (Or.inr (wd153 hw)) (ty := (.object "com/example/tariff/tariff/VoltageClass")) (by decide)
      have F420 : fl11 Z h417 b417 .null := D417 (Or.inr (wd155 hw)) (ty := (.object "java/math/BigInteger")) (by decide)
      have F421 : fl12 Z h417 b417 .null := D417 (Or.inr (wd157 hw)) (ty := (.object "java/math/BigInteger")) (by decide)
      refine own_ru 127 [(.int (1 : Int32)), (.ref l1), (.ref b417), (.ref b417), (.ref b353)] X417 hx hby e13_123_3 rfl rfl ?_
      have f422 := (Exa.ext E417 f414)
      have f423 := (Fld.ext E417 f412)
      have f424 := (Fld.ext E417 ((f384.keep K404 (own_nS (by omega) nin0)).keep K411 (own_nS (by omega) nin0)))
      have f425 := (((f385.keep K404 (own_nS (by omega) nin0)).keep K411 (own_nS (by omega) nin0)).ext E417)
      refine own_cI X417 hx hZ hown (wd122 hw) (wd123 hw) (mvT hZ (wd124 hw)) (wd125 hw) (wd126 hw) (wd127 hw) (wd128 hw) (wd63 hw) (by decide) (wd129 hw) (wd34 hw) (rm16 l Z a0 hw [] l1 (1 : Int32) r1 q1 [(.ref vv), (.ref vv), .null, .null, .null, .null, .null, .null, .null, .null] vv (2 : Int32) h417 n0 (by omega) f422 f423 f424 f425 (by decide) (by decide) ⟨by decide, by decide⟩ rfl) e417 f422 [(.int (1 : Int32))] [(.ref b417), (.ref b417), (.ref b353)] 132 3 (hb hby d13_127) rfl (by rw [hml]; rfl) rfl rfl (lenOf pd_7 rfl) rfl (by decide) fun v426 T426 Lc426 X426 hQ426 => ?_
      obtain ⟨rfl, N426q, e426⟩ := hQ426
      have N426 := Fr.app N413 N426q
      have f427 := (Exa.ext E417 (Exa.keep (Exa.keep f387 K404) K411))
      refine own_ca X426 hx hZ hown (wd143 hw) e426 (Ins.self f427) 135 rfl (hb hby d13_132) rfl fun T428 X428 e428 => ?_
      refine own_ru 138 [(.int (1 : Int32)), (.ref l2), (.ref vv), (.ref b417), (.ref b417), (.ref b353)] X428 hx hby e13_135_2 rfl rfl ?_
      have f429 := (Exa.ext E417 (Exa.keep (Exa.keep f389 K404) K411))
      have f430 := (Fld.ext E417 ((f390.keep K404 (own_nS (by omega) nin0)).keep K411 (own_nS (by omega) nin0)))
      have f431 := (Fld.ext E417 ((f391.keep K404 (own_nS (by omega) nin0)).keep K411 (own_nS (by omega) nin0)))
      have f432 := (((f392.keep K404 (own_nS (by omega) nin0)).keep K411 (own_nS (by omega) nin0)).ext E417)
      refine own_cI X428 hx hZ hown (wd122 hw) (wd123 hw) (mvT hZ (wd124 hw)) (wd125 hw) (wd126 hw) (wd127 hw) (wd128 hw) (wd63 hw) (by decide) (wd129 hw) (wd34 hw) (rm16 l Z a0 hw [] l2 (1 : Int32) r2 q2 [(.ref vc0), (.ref vc1), .null, .null, .null, .null, .null, .null, .null, .null] vc1 (2 : Int32) h417 n0 (by omega) f429 f430 f431 f432 (by decide) (by decide) ⟨by decide, by decide⟩ rfl) e428 f429 [(.int (1 : Int32))] [(.ref vv), (.ref b417), (.ref b417), (.ref b353)] 143 4 (hb hby d13_138) rfl (by rw [hml]; rfl) rfl rfl (lenOf pd_7 rfl) rfl (by decide) fun v433 T433 Lc433 X433 hQ433 => ?_
      obtain ⟨rfl, N433q, e433⟩ := hQ433
      have N433 := Fr.app N426 N433q
      have f434 := (Exa.ext E417 (Exa.keep (Exa.keep (Exa.ext E377 (Exa.wr W361 (Exa.keep (Exa.ext E353 P16) K358))) K404) K411))
      refine own_ca X433 hx hZ hown (wd144 hw) e433 (Ins.self f434) 146 rfl (hb hby d13_143) rfl fun T435 X435 e435 => ?_
      refine own_ru 148 [(.int (1 : Int32)), (.ref vc1), (.ref vv), (.ref b417), (.ref b417), (.ref b353)] X435 hx hby e13_146_1 rfl rfl ?_
      refine own_iY 155 X435 hx (hb hby d13_148) rfl ((if0 _ _).trans (feq (by decide : ¬ ((1 : Int32) = (0 : Int32)))).2) (by decide) (by decide) ?_
      refine own_ru 160 [(.int (0 : Int32)), (.ref l3), (.ref vc1), (.ref vv), (.ref b417), (.ref b417), (.ref b353)] X435 hx hby e13_155_4 rfl rfl ?_
      have f436 := (Exa.ext E417 (Exa.keep (Exa.keep f398 K404) K411))
      have f437 := (Fld.ext E417 ((f396.keep K404 (own_nS (by omega) nin0)).keep K411 (own_nS (by omega) nin0)))
      have f438 := (Fld.ext E417 ((f399.keep K404 (own_nS (by omega) nin0)).keep K411 (own_nS (by omega) nin0)))
      have f439 := (((f400.keep K404 (own_nS (by omega) nin0)).keep K411 (own_nS (by omega) nin0)).ext E417)
      refine own_cI X435 hx hZ hown (wd122 hw) (wd123 hw) (mvT hZ (wd124 hw)) (wd125 hw) (wd126 hw) (wd127 hw) (wd128 hw) (wd63 hw) (by decide) (wd129 hw) (wd34 hw) (rm16 l Z a0 hw [] l3 (0 : Int32) r3 q3 [(.ref vb0), .null, .null, .null, .null, .null, .null, .null, .null, .null] vb0 (1 : Int32) h417 n0 (by omega) f436 f437 f438 f439 (by decide) (by decide) ⟨by decide, by decide⟩ rfl) e435 f436 [(.int (0 : Int32))] [(.ref vc1), (.ref vv), (.ref b417), (.ref b417), (.ref b353)] 165 5 (hb hby d13_160) rfl (by rw [hml]; rfl) rfl rfl (lenOf pd_7 rfl) rfl (by decide) fun v440 T440 Lc440 X440 hQ440 => ?_
      obtain ⟨rfl, N440q, e440⟩ := hQ440
      have N440 := Fr.app N433 N440q
      have f441 := (Exa.ext E417 (Exa.keep (Exa.keep f402 K404) K411))
      refine own_ca X440 hx hZ hown (wd143 hw) e440 (Ins.self f441) 168 rfl (hb hby d13_165) rfl fun T442 X442 e442 => ?_
      refine own_ru 171 [(.ref l3), (.int (1 : Int32)), (.ref vb0), (.ref vc1), (.ref vv), (.ref b417), (.ref b417), (.ref b353)] X442 hx hby e13_168_2 rfl rfl ?_
      refine own_cI X442 hx hZ hown (wd111 hw) (wd112 hw) (mvT hZ (wd113 hw)) (wd114 hw) (wd115 hw) (wd116 hw) (wd117 hw) (wd63 hw) (by decide) (wd118 hw) (wd34 hw) (rm15 l Z a0 hw [] l3 (1 : Int32) h417 n0 (by omega) f437) e442 f436 [] [(.int (1 : Int32)), (.ref vb0), (.ref vc1), (.ref vv), (.ref b417), (.ref b417), (.ref b353)] 176 7 (hb hby d13_171) rfl (by rw [hml]; rfl) rfl rfl (lenOf pd_9 rfl) rfl (by decide) fun v443 T443 Lc443 X443 hQ443 => ?_
      obtain ⟨rfl, N443q, e443⟩ := hQ443
      have N443 := Fr.app N440 N443q
      refine own_kY 193 X443 hx (hb hby d13_176) rfl (flt (by decide : ¬ ((1 : Int32) < (1 : Int32)))).2.1 (by decide) (by decide) ?_
      refine own_ru 194 [.null, (.ref vb0), (.ref vc1), (.ref vv), (.ref b417), (.ref b417), (.ref b353)] X443 hx hby e13_193_1 rfl rfl ?_
      refine own_cRi X443 hx hZ hown rfl (wd146 hw) (wd147 hw) (by decide) (wd148 hw) (wd121 hw) (rm20 l Z a0 hw [] b417 (.ref vv) (.ref vc1) (.ref vb0) (.null) h417 n0 (by omega) A417 F418 F419 F420 F421 (by omega) rfl rfl rfl rfl) e443  [(.ref vv), (.ref vc1), (.ref vb0), .null] [(.ref b417), (.ref b353)] 197 2 (hb hby d13_194) rfl (by rw [hml]; rfl) rfl rfl (lenOf pd_10 rfl) rfl (by decide) fun v444 T444 Lc444 X444 hQ444 => ?_
      obtain ⟨rfl, N444q, K444, G444_0, G444_1, G444_2, G444_3, G444_4⟩ := hQ444
      have N444 := Fr.app N443 N444q
      have z444 := K444.1
      have KK444 : Keep h0 T444.heap [a1] := KK417.trans K444 (allS (Or.inr (by omega)) all0)
      have lt444_0 : @LT.lt Nat _ b417 (Array.size T444.heap) := G444_0.lt
      have f445 := (Exa.keep (Exa.ext E417 G411_0) K444)
      have f446 := ((Fld.ext E417 G411_1').keep K444 (own_nS (by omega) nin0))
      have f447 := ((Fld.ext E417 G411_2).keep K444 (own_nS (by omega) nin0))
      have f448 := ((Fld.ext E417 G411_3).keep K444 (own_nS (by omega) nin0))
      have f449 := ((G411_4.ext E417).keep K444 (own_nS (by omega) nin0))
      have f450 : Ins Z T444.heap b417 "java/lang/Object" true := (Ins.of_exa G444_0 (wd159 hw))
      refine own_cI X444 hx hZ hown (wd158 hw) (wd57 hw) (mvT hZ (wd58 hw)) (wd59 hw) (wd60 hw) (wd61 hw) (wd62 hw) (wd63 hw) (by decide) (wd64 hw) (wd34 hw) (rm8s1 l Z a0 hw [] b353 b417 (1 : Int32) ar_411 kk_411 [(.ref b377), .null, .null, .null, .null, .null, .null, .null, .null, .null] T444.heap n0 (by omega) f445 f446 f447 f448 f449 f450 (by omega) (by omega) rfl U411_0 (by first | assumption | decide | omega)) rfl f445 [(.ref b417)] [] 202 0 (hb hby d13_197) rfl (by rw [hml]; rfl) rfl rfl (lenOf pd_11 rfl) rfl (by decide) fun v451 T451 Lc451 X451 hQ451 => ?_
      obtain ⟨rfl, N451q, K451, G451_0, G451_1, G451_2, G451_3, G451_4⟩ := hQ451
      have N451 := Fr.app N444 N451q
      have z451 := K451.1
      have KK451 : Keep h0 T451.heap [a1] := KK444.trans K451 (allS (Or.inr (by omega)) (allS (Or.inr (by omega)) all0))
      have lt451_0 : @LT.lt Nat _ b353 (Array.size T451.heap) := G451_0.lt
      have G451_1' : fl5 Z T451.heap b353 (.int (2 : Int32)) := G451_1
      have G451_4' : Arv Z T451.heap ar_411 kk_411 (.object "java/lang/Object") (10 : Int32) [(.ref b377), (.ref b417), .null, .null, .null, .null, .null, .null, .null, .null] .null := G451_4
      have lt451_4 : @LT.lt Nat _ ar_411 (Array.size T451.heap) := G451_4.lt
      refine own_rl 206 #[.val (.ref a1), .val (.ref l1), .val (.ref l2), .val (.ref l3), .val (.int (2 : Int32))] [] X451 hx hby e13_202_2 rfl rfl ?_
      refine own_go 105 X451 hx (hb hby d13_206) (by decide) (by decide) ?_
      refine own_ru 108 [(.ref l1), (.int (2 : Int32))] X451 hx hby e13_105_2 rfl rfl ?_
      have f452 := ((f423.keep K444 (own_nS (by omega) nin0)).keep K451 (own_nS (by omega) (own_nS (by omega) nin0)))
      have f454 := (Exa.keep (Exa.keep f422 K444) K451)
      refine own_cI X451 hx hZ hown (wd111 hw) (wd112 hw) (mvT hZ (wd113 hw)) (wd114 hw) (wd115 hw) (wd116 hw) (wd117 hw) (wd63 hw) (by decide) (wd118 hw) (wd34 hw) (rm15 l Z a0 hw [] l1 (2 : Int32) T451.heap n0 (by omega) f452) rfl f454 [] [(.int (2 : Int32))] 113 1 (hb hby d13_108) rfl (by rw [hml]; rfl) rfl rfl (lenOf pd_9 rfl) rfl (by decide) fun v453 T453 Lc453 X453 hQ453 => ?_
      obtain ⟨rfl, N453q, e453⟩ := hQ453
      have N453 := Fr.app N451 N453q
      refine own_kY 209 X453 hx (hb hby d13_113) rfl (flt (by decide : ¬ ((2 : Int32) < (2 : Int32)))).2.1 (by decide) (by decide) ?_
      have f456 := (Exa.keep (Exa.keep (Exa.ext E417 (Exa.keep (Exa.keep (Exa.ext E377 (Exa.wr W361 f359)) K404) K411)) K444) K451)
      have f457 := (((Fld.ext E417 f415).keep K444 (own_nS (by omega) nin0)).keep K451 (own_nS (by omega) (own_nS (by omega) nin0)))
      have f458 := (Exa.keep G444_0 K451)
      have f459 := (G444_4.keep K451 (own_nS (by omega) (own_nS (by omega) nin0)))
      have hq455 : Q13t21 Z o_EXTRA_HIGH o_HIGH o_ZERO o_DEF kDEF o_pos cl_pos o_neg cl_neg a1 l1 l2 l3 r1 q1 r2 q2 r3 q3 vv vc0 vc1 vb0 h0 n0 none T451.heap _ := ⟨b353, ar_411, kk_411, b377, b417, rfl, N453, KK451, f456, f457, G451_0, G451_2, G451_3, G451_4', f458, f459⟩
      exact own_retV X453 hx hlk hrt (hb hby d13_209) e453 hq455 (by decide) (by decide)
def Q13t22 (Z : State) (o_EXTRA_HIGH : Addr) (o_HIGH : Addr) (o_ZERO : Addr) (o_DEF : Addr) (kDEF : ClassId) (o_pos : Addr) (cl_pos : Cell) (o_neg : Addr) (cl_neg : Cell) (a1 : Addr) (l1 : Addr) (l2 : Addr) (l3 : Addr) (r1 : Addr) (q1 : ClassId) (r2 : Addr) (q2 : ClassId) (r3 : Addr) (q3 : ClassId) (vv : Addr) (vc0 : Addr) (vc1 : Addr) (vb0 : Addr) (vb1 : Addr) (h0 : Heap) (n0 : Nat) (v : Option Value) (h : Heap) (L : List Loc) : Prop := ∃ vl : Addr, ∃ ra : Addr, ∃ kr : ClassId, ∃ vo0 : Addr, ∃ vo1 : Addr, v = none ∧ Fr n0 L ∧ Keep h0 h [a1] ∧ ex13 Z h a1 ∧ fl14 Z h a1 (.ref vl) ∧ ex4 Z h vl ∧ fl6 Z h vl (.int (2 : Int32)) ∧ fl7 Z h vl (.ref ra) ∧ Arv Z h ra kr (.object "java/lang/Object") (10 : Int32) [(.ref vo0), (.ref vo1), .null, .null, .null, .null, .null, .null, .null, .null] .null ∧ ex8 Z h vo1 ∧ fl12 Z h vo1 (.ref vb1)
set_option maxRecDepth 65536 in
set_option maxHeartbeats 40000000 in
theorem rm13t22 (l : Launch) (Z : State) (a0 : Array Value) (hw : OW a0 Z) (ws : List Jvm.Cond) (o_EXTRA_HIGH : Addr) (o_HIGH : Addr) (o_ZERO : Addr) (o_DEF : Addr) (kDEF : ClassId) (o_pos : Addr) (cl_pos : Cell) (o_neg : Addr) (cl_neg : Cell) (a1 : Addr) (l1 : Addr) (l2 : Addr) (l3 : Addr) (r1 : Addr) (q1 : ClassId) (r2 : Addr) (q2 : ClassId) (r3 : Addr) (q3 : ClassId) (vv : Addr) (vc0 : Addr) (vc1 : Addr) (vb0 : Addr) (vb1 : Addr) (h0 : Heap) (n0 : Nat) (Z0 : n0 ≤ h0.size) (OLD : Old Z n0 h0) (A : Amb Z o_EXTRA_HIGH o_HIGH o_ZERO o_DEF kDEF o_pos cl_pos o_neg cl_neg) (P0 : ex13 Z h0 a1) (P1 : fl14 Z h0 a1 .null) (P2 : ex4 Z h0 l1) (P3 : fl6 Z h0 l1 (.int (2 : Int32))) (P4 : fl7 Z h0 l1 (.ref r1)) (P5 : Arv Z h0 r1 q1 (.object "java/lang/Object") (10 : Int32) [(.ref vv), (.ref vv), .null, .null, .null, .null, .null, .null, .null, .null] .null) (P6 : ex4 Z h0 l2) (P7 : fl6 Z h0 l2 (.int (2 : Int32))) (P8 : fl7 Z h0 l2 (.ref r2)) (P9 : Arv Z h0 r2 q2 (.object "java/lang/Object") (10 : Int32) [(.ref vc0), (.ref vc1), .null, .null, .null, .null, .null, .null, .null, .null] .null) (P10 : ex4 Z h0 l3) (P11 : fl6 Z h0 l3 (.int (2 : Int32))) (P12 : fl7 Z h0 l3 (.ref r3)) (P13 : Arv Z h0 r3 q3 (.object "java/lang/Object") (10 : Int32) [(.ref vb0), (.ref vb1), .null, .null, .null, .null, .null, .null, .null, .null] .null) (P14 : ex1 Z h0 vv) (P15 : ex0 Z h0 vc0) (P16 : ex0 Z h0 vc1) (P17 : ex1 Z h0 vb0) (P18 : ex1 Z h0 vb1) (g_a1 : n0 ≤ a1) (hd0 : @Ne Nat a1 l1) (hd1 : @Ne Nat a1 l2) (hd2 : @Ne Nat a1 l3) (hd3 : @Ne Nat a1 r1) (hd4 : @Ne Nat a1 r2) (hd5 : @Ne Nat a1 r3) :
    own_Met l my13 prog_37_method_1_code 5 none ws (own_rm 5 4 21 69) #[(.ref a1), (.ref l1), (.ref l2), (.ref l3)] Z h0 (Q13t22 Z o_EXTRA_HIGH o_HIGH o_ZERO o_DEF kDEF o_pos cl_pos o_neg cl_neg a1 l1 l2 l3 r1 q1 r2 q2 r3 q3 vv vc0 vc1 vb0 vb1 h0 n0) 4 21 := by
  refine own_body (plainFor_of_name pn_8) (fun m => by first | (simp [entryFrame, mkF, argsToLocals, Value.category]; done) | rfl) (Ls := #[.val (.ref a1), .val (.ref l1), .val (.ref l2), .val (.ref l3), .unset]) fun p e s m below meth c s₁ X0 hx hby hml hZ e0 hown hnm hlk hrt => ?_
  have N0 := Fr.nil n0
  have lt_P0 : @LT.lt Nat _ a1 (Array.size h0) := P0.lt
  have lt_P2 : @LT.lt Nat _ l1 (Array.size h0) := P2.lt
  have lt_P5 : @LT.lt Nat _ r1 (Array.size h0) := P5.lt
  have lt_P6 : @LT.lt Nat _ l2 (Array.size h0) := P6.lt
  have lt_P9 : @LT.lt Nat _ r2 (Array.size h0) := P9.lt
  have lt_P10 : @LT.lt Nat _ l3 (Array.size h0) := P10.lt
  have lt_P13 : @LT.lt Nat _ r3 (Array.size h0) := P13.lt
  have lt_P14 : @LT.lt Nat _ vv (Array.size h0) := P14.lt
  have lt_P15 : @LT.lt Nat _ vc0 (Array.size h0) := P15.lt
  have lt_P16 : @LT.lt Nat _ vc1 (Array.size h0) := P16.lt
  have lt_P17 : @LT.lt Nat _ vb0 (Array.size h0) := P17.lt
  have lt_P18 : @LT.lt Nat _ vb1 (Array.size h0) := P18.lt
  refine own_ru 1 [(.ref a1)] X0 hx hby e13_0_1 rfl rfl ?_
  refine own_iO X0 hx hZ hown (wd98 hw) (wd22 hw) (wd23 hw) e0 4 0 (by rw [hml]; rfl) rfl (hb hby d13_1) rfl (by decide) rfl (by decide) fun T460 X460 e460 => ?_
  refine own_ru 5 [(.ref a1)] X460 hx hby e13_4_1 rfl rfl ?_
  refine own_nO X460 hx hZ hown (wd99 hw) (wd33 hw) (wd34 hw) e460 8 (hb hby d13_5) rfl (by decide) (by decide) fun T461 h461 b461 g461 X461 e461 E461 A461 D461 UN461 => ?_
  have ll461 : @LT.lt Nat _ b461 (Array.size h461) := A461.lt
  have KK461 : Keep h0 h461 [a1] := (Keep.refl h0 [a1]).ext E461
  have z461 := E461.1
  have F462 : fl5 Z h461 b461 (.int (0 : Int32)) := D461 (Or.inl (wd52 hw)) (ty := .int) (by decide)
  have F463 : fl7 Z h461 b461 .null := D461 (Or.inl (wd55 hw)) (ty := (.array (.object "java/lang/Object"))) (by decide)
  have F464 : fl6 Z h461 b461 (.int (0 : Int32)) := D461 (Or.inl (wd68 hw)) (ty := .int) (by decide)
  refine own_ru 9 [(.ref b461), (.ref b461), (.ref a1)] X461 hx hby e13_8_1 rfl rfl ?_
  have f465 := (OLD.ext E461)
  refine own_cN X461 hx hZ hown rfl (wd100 hw) (wd36 hw) (by decide) (wd37 hw) (wd34 hw) (rm5 l Z a0 hw [] o_EXTRA_HIGH o_HIGH o_ZERO o_DEF kDEF o_pos cl_pos o_neg cl_neg b461 h461 n0 (by omega) f465 A A461 F462 F464 F463 (by omega)) e461  [] [(.ref b461), (.ref a1)] 12 2 (hb hby d13_9) rfl (by rw [hml]; rfl) rfl rfl (lenOf pd_0 rfl) rfl (by decide) fun v466 T466 Lc466 X466 hQ466 => ?_
  obtain ⟨rfl, N466q, K466, G466_0, G466_1, G466_2, G466_3⟩ := hQ466
  have N466 := Fr.app N0 N466q
  have z466 := K466.1
  have KK466 : Keep h0 T466.heap [a1] := KK461.trans K466 (allS (Or.inr (by omega)) all0)
  have lt466_0 : @LT.lt Nat _ b461 (Array.size T466.heap) := G466_0.lt
  have f467 := (Exa.keep (Exa.ext E461 P0) K466)
  have f468 := ((Fld.ext E461 P1).keep K466 (own_nS (by omega) nin0))
  refine own_pF X466 hx hZ hown (host := "") (Or.inl (wd101 hw)) Via.refl rfl f468 f467 (Or.inr ⟨(wd102 hw), rfl, hnm⟩) (wd93 hw) (ty := (.object "java/util/List")) (by decide) rfl rfl 15 rfl (hb hby d13_12) rfl fun T469 h469 X469 e469 W469 => ?_
  have F469 := Fld.same W469 f468
  have z469 := W469.size
  have KK469 : Keep h0 h469 [a1] := KK466.wr W469 (Or.inl (by simp))
  have N469 := Fr.snoc X469 N466 (by omega)
  refine own_ru 16 [(.ref l1)] X469 hx hby e13_15_1 rfl rfl ?_
  have f470 := (Fld.other W469 ((Fld.ext E461 P3).keep K466 (own_nS (by omega) nin0)) (Or.inl (own_ne (by omega))))
  have f472 := (Exa.wr W469 (Exa.keep (Exa.ext E461 P2) K466))
  refine own_cI X469 hx hZ hown (wd103 hw) (wd104 hw) (mvT hZ (wd105 hw)) (wd106 hw) (wd107 hw) (wd108 hw) (wd109 hw) (wd63 hw) (by decide) (wd110 hw) (wd34 hw) (rm14 l Z a0 hw [] l1 (2 : Int32) h469 n0 (by omega) f470) e469 f472 [] [] 21 0 (hb hby d13_16) rfl (by rw [hml]; rfl) rfl rfl (lenOf pd_8 rfl) rfl (by decide) fun v471 T471 Lc471 X471 hQ471 => ?_
  obtain ⟨hvc471, N471q, e471⟩ := hQ471
  have N471 := Fr.app N469 N471q
  rcases hvc471 with ⟨rfl, hp16⟩ | ⟨rfl, hp16⟩
  · exact absurd hp16 (by decide)
  · refine own_iN 24 X471 hx (hb hby d13_21) rfl ((if0 _ _).trans (teq (by decide : ((0 : Int32) = (0 : Int32)))).2) rfl ?_
    refine own_ru 25 [(.ref l2)] X471 hx hby e13_24_1 rfl rfl ?_
    have f473 := (Fld.other W469 ((Fld.ext E461 P7).keep K466 (own_nS (by omega) nin0)) (Or.inl (own_ne (by omega))))
    have f475 := (Exa.wr W469 (Exa.keep (Exa.ext E461 P6) K466))
    refine own_cI X471 hx hZ hown (wd111 hw) (wd112 hw) (mvT hZ (wd113 hw)) (wd114 hw) (wd115 hw) (wd116 hw) (wd117 hw) (wd63 hw) (by decide) (wd118 hw) (wd34 hw) (rm15 l Z a0 hw [] l2 (2 : Int32) h469 n0 (by omega) f473) e471 f475 [] [] 30 0 (hb hby d13_25) rfl (by rw [hml]; rfl) rfl rfl (lenOf pd_9 rfl) rfl (by decide) fun v474 T474 Lc474 X474 hQ474 => ?_
    obtain ⟨rfl, N474q, e474⟩ := hQ474
    have N474 := Fr.app N471 N474q
    refine own_ru 31 [(.ref l1), (.int (2 : Int32))] X474 hx hby e13_30_1 rfl rfl ?_
    refine own_cI X474 hx hZ hown (wd111 hw) (wd112 hw) (mvT hZ (wd113 hw)) (wd114 hw) (wd115 hw) (wd116 hw) (wd117 hw) (wd63 hw) (by decide) (wd118 hw) (wd34 hw) (rm15 l Z a0 hw [] l1 (2 : Int32) h469 n0 (by omega) f470) e474 f472 [] [(.int (2 : Int32))] 36 1 (hb hby d13_31) rfl (by rw [hml]; rfl) rfl rfl (lenOf pd_9 rfl) rfl (by decide) fun v476 T476 Lc476 X476 hQ476 => ?_
    obtain ⟨rfl, N476q, e476⟩ := hQ476
    have N476 := Fr.app N474 N476q
    refine own_kN 39 X476 hx (hb hby d13_36) rfl (teq (by decide : ((2 : Int32) = (2 : Int32)))).2 rfl ?_
    refine own_ru 40 [(.ref l3)] X476 hx hby e13_39_1 rfl rfl ?_
    have f477 := (Fld.other W469 ((Fld.ext E461 P11).keep K466 (own_nS (by omega) nin0)) (Or.inl (own_ne (by omega))))
    have f479 := (Exa.wr W469 (Exa.keep (Exa.ext E461 P10) K466))
    refine own_cI X476 hx hZ hown (wd111 hw) (wd112 hw) (mvT hZ (wd113 hw)) (wd114 hw) (wd115 hw) (wd116 hw) (wd117 hw) (wd63 hw) (by decide) (wd118 hw) (wd34 hw) (rm15 l Z a0 hw [] l3 (2 : Int32) h469 n0 (by omega) f477) e476 f479 [] [] 45 0 (hb hby d13_40) rfl (by rw [hml]; rfl) rfl rfl (lenOf pd_9 rfl) rfl (by decide) fun v478 T478 Lc478 X478 hQ478 => ?_
    obtain ⟨rfl, N478q, e478⟩ := hQ478
    have N478 := Fr.app N476 N478q
    refine own_ru 46 [(.ref l1), (.int (2 : Int32))] X478 hx hby e13_45_1 rfl rfl ?_
    refine own_cI X478 hx hZ hown (wd111 hw) (wd112 hw) (mvT hZ (wd113 hw)) (wd114 hw) (wd115 hw) (wd116 hw) (wd117 hw) (wd63 hw) (by decide) (wd118 hw) (wd34 hw) (rm15 l Z a0 hw [] l1 (2 : Int32) h469 n0 (by omega) f470) e478 f472 [] [(.int (2 : Int32))] 51 1 (hb hby d13_46) rfl (by rw [hml]; rfl) rfl rfl (lenOf pd_9 rfl) rfl (by decide) fun v480 T480 Lc480 X480 hQ480 => ?_
    obtain ⟨rfl, N480q, e480⟩ := hQ480
    have N480 := Fr.app N478 N480q
    refine own_ru 53 [(.int (1 : Int32)), (.int (2 : Int32))] X480 hx hby e13_51_2 rfl rfl ?_
    refine own_kN 56 X480 hx (hb hby d13_53) rfl (flt (by decide : ¬ ((2 : Int32) < (1 : Int32)))).1 rfl ?_
    refine own_ru 57 [(.ref l3)] X480 hx hby e13_56_1 rfl rfl ?_
    refine own_cI X480 hx hZ hown (wd111 hw) (wd112 hw) (mvT hZ (wd113 hw)) (wd114 hw) (wd115 hw) (wd116 hw) (wd117 hw) (wd63 hw) (by decide) (wd118 hw) (wd34 hw) (rm15 l Z a0 hw [] l3 (2 : Int32) h469 n0 (by omega) f477) e480 f479 [] [] 62 0 (hb hby d13_57) rfl (by rw [hml]; rfl) rfl rfl (lenOf pd_9 rfl) rfl (by decide) fun v481 T481 Lc481 X481 hQ481 => ?_
    obtain ⟨rfl, N481q, e481⟩ := hQ481
    have N481 := Fr.app N480 N481q
    refine own_ru 63 [(.ref l1), (.int (2 : Int32))] X481 hx hby e13_62_1 rfl rfl ?_
    refine own_cI X481 hx hZ hown (wd111 hw) (wd112 hw) (mvT hZ (wd113 hw)) (wd114 hw) (wd115 hw) (wd116 hw) (wd117 hw) (wd63 hw) (by decide) (wd118 hw) (wd34 hw) (rm15 l Z a0 hw [] l1 (2 : Int32) h469 n0 (by omega) f470) e481 f472 [] [(.int (2 : Int32))] 68 1 (hb hby d13_63) rfl (by rw [hml]; rfl) rfl rfl (lenOf pd_9 rfl) rfl (by decide) fun v482 T482 Lc482 X482 hQ482 => ?_
    obtain ⟨rfl, N482q, e482⟩ := hQ482
    have N482 := Fr.app N481 N482q
    refine own_kY 102 X482 hx (hb hby d13_68) rfl (flt (by decide : ¬ ((2 : Int32) < (2 : Int32)))).2.2.2 (by decide) (by decide) ?_
    refine own_rl 108 #[.val (.ref a1), .val (.ref l1), .val (.ref l2), .val (.ref l3), .val (.int (0 : Int32))] [(.ref l1), (.int (0 : Int32))] X482 hx hby e13_102_4 rfl rfl ?_
    refine own_cI X482 hx hZ hown (wd111 hw) (wd112 hw) (mvT hZ (wd113 hw)) (wd114 hw) (wd115 hw) (wd116 hw) (wd117 hw) (wd63 hw) (by decide) (wd118 hw) (wd34 hw) (rm15 l Z a0 hw [] l1 (2 : Int32) h469 n0 (by omega) f470) e482 f472 [] [(.int (0 : Int32))] 113 1 (hb hby d13_108) rfl (by rw [hml]; rfl) rfl rfl (lenOf pd_9 rfl) rfl (by decide) fun v483 T483 Lc483 X483 hQ483 => ?_
    obtain ⟨rfl, N483q, e483⟩ := hQ483
    have N483 := Fr.app N482 N483q
    refine own_kN 116 X483 hx (hb hby d13_113) rfl (tlt (by decide : ((0 : Int32) < (2 : Int32)))).2.1 rfl ?_
    refine own_ru 117 [(.ref a1)] X483 hx hby e13_116_1 rfl rfl ?_
    refine own_gF X483 hx hZ hown (host := "") (Or.inl (wd101 hw)) Via.refl e483 F469 120 rfl (hb hby d13_117) rfl fun T484 X484 e484 => ?_
    refine own_nO X484 hx hZ hown (wd119 hw) (wd120 hw) (wd121 hw) e484 123 (hb hby d13_120) rfl (by decide) (by decide) fun T485 h485 b485 g485 X485 e485 E485 A485 D485 UN485 => ?_
    have ll485 : @LT.lt Nat _ b485 (Array.size h485) := A485.lt
    have KK485 : Keep h0 h485 [a1] := KK469.ext E485
    have z485 := E485.1
    have F486 : fl9 Z h485 b485 .null := D485 (Or.inr (wd151 hw)) (ty := (.object "java/math/BigInteger")) (by decide)
    have F487 : fl10 Z h485 b485 .null := D485 (Or.inr (wd153 hw)) (ty := (.object "com/example/tariff/tariff/VoltageClass")) (by decide)
    have F488 : fl11 Z h485 b485 .null := D485 (Or.inr (wd155 hw)) (ty := (.object "java/math/BigInteger")) (by decide)
    have F489 : fl12 Z h485 b485 .null := D485 (Or.inr (wd157 hw)) (ty := (.object "java/math/BigInteger")) (by decide)
    refine own_ru 127 [(.int (0 : Int32)), (.ref l1), (.ref b485), (.ref b485), (.ref b461)] X485 hx hby e13_123_3 rfl rfl ?_
    have f490 := (Exa.ext E485 f472)
    have f491 := (Fld.ext E485 f470)
    have f492 := (Fld.ext E485 (Fld.other W469 ((Fld.ext E461 P4).keep K466 (own_nS (by omega) nin0)) (Or.inl (own_ne (by omega)))))
    have f493 := ((((P5.ext E461).keep K466 (own_nS (by omega) nin0)).other W469 (own_ne (by omega))).ext E485)
    refine own_cI X485 hx hZ hown (wd122 hw) (wd123 hw) (mvT hZ (wd124 hw)) (wd125 hw) (wd126 hw) (wd127 hw) (wd128 hw) (wd63 hw) (by decide) (wd129 hw) (wd34 hw) (rm16 l Z a0 hw [] l1 (0 : Int32) r1 q1 [(.ref vv), (.ref vv), .null, .null, .null, .null, .null, .null, .null, .null] vv (2 : Int32) h485 n0 (by omega) f490 f491 f492 f493 (by decide) (by decide) ⟨by decide, by decide⟩ rfl) e485 f490 [(.int (0 : Int32))] [(.ref b485), (.ref b485), (.ref b461)] 132 3 (hb hby d13_127) rfl (by rw [hml]; rfl) rfl rfl (lenOf pd_7 rfl) rfl (by decide) fun v494 T494 Lc494 X494 hQ494 => ?_
    obtain ⟨rfl, N494q, e494⟩ := hQ494
    have N494 := Fr.app N483 N494q
    have f495 := (Exa.ext E485 (Exa.wr W469 (Exa.keep (Exa.ext E461 P14) K466)))
    refine own_ca X494 hx hZ hown (wd143 hw) e494 (Ins.self f495) 135 rfl (hb hby d13_132) rfl fun T496 X496 e496 => ?_
    refine own_ru 138 [(.int (0 : Int32)), (.ref l2), (.ref vv), (.ref b485), (.ref b485), (.ref b461)] X496 hx hby e13_135_2 rfl rfl ?_
    have f497 := (Exa.ext E485 f475)
    have f498 := (Fld.ext E485 f473)
    have f499 := (Fld.ext E485 (Fld.other W469 ((Fld.ext E461 P8).keep K466 (own_nS (by omega) nin0)) (Or.inl (own_ne (by omega)))))
    have f500 := ((((P9.ext E461).keep K466 (own_nS (by omega) nin0)).other W469 (own_ne (by omega))).ext E485)
    refine own_cI X496 hx hZ hown (wd122 hw) (wd123 hw) (mvT hZ (wd124 hw)) (wd125 hw) (wd126 hw) (wd127 hw) (wd128 hw) (wd63 hw) (by decide) (wd129 hw) (wd34 hw) (rm16 l Z a0 hw [] l2 (0 : Int32) r2 q2 [(.ref vc0), (.ref vc1), .null, .null, .null, .null, .null, .null, .null, .null] vc0 (2 : Int32) h485 n0 (by omega) f497 f498 f499 f500 (by decide) (by decide) ⟨by decide, by decide⟩ rfl) e496 f497 [(.int (0 : Int32))] [(.ref vv), (.ref b485), (.ref b485), (.ref b461)] 143 4 (hb hby d13_138) rfl (by rw [hml]; rfl) rfl rfl (lenOf pd_7 rfl) rfl (by decide) fun v501 T501 Lc501 X501 hQ501 => ?_
    obtain ⟨rfl, N501q, e501⟩ := hQ501
    have N501 := Fr.app N494 N501q
    have f502 := (Exa.ext E485 (Exa.wr W469 (Exa.keep (Exa.ext E461 P15) K466)))
    refine own_ca X501 hx hZ hown (wd144 hw) e501 (Ins.self f502) 146 rfl (hb hby d13_143) rfl fun T503 X503 e503 => ?_
    refine own_ru 148 [(.int (0 : Int32)), (.ref vc0), (.ref vv), (.ref b485), (.ref b485), (.ref b461)] X503 hx hby e13_146_1 rfl rfl ?_
    refine own_iN 151 X503 hx (hb hby d13_148) rfl ((if0 _ _).trans (teq (by decide : ((0 : Int32) = (0 : Int32)))).2) rfl ?_
    refine own_ru 152 [.null, (.ref vc0), (.ref vv), (.ref b485), (.ref b485), (.ref b461)] X503 hx hby e13_151_1 rfl rfl ?_
    refine own_go 168 X503 hx (hb hby d13_152) (by decide) (by decide) ?_
    refine own_ru 171 [(.ref l3), (.int (0 : Int32)), .null, (.ref vc0), (.ref vv), (.ref b485), (.ref b485), (.ref b461)] X503 hx hby e13_168_2 rfl rfl ?_
    have f504 := (Fld.ext E485 f477)
    have f506 := (Exa.ext E485 f479)
    refine own_cI X503 hx hZ hown (wd111 hw) (wd112 hw) (mvT hZ (wd113 hw)) (wd114 hw) (wd115 hw) (wd116 hw) (wd117 hw) (wd63 hw) (by decide) (wd118 hw) (wd34 hw) (rm15 l Z a0 hw [] l3 (2 : Int32) h485 n0 (by omega) f504) e503 f506 [] [(.int (0 : Int32)), .null, (.ref vc0), (.ref vv), (.ref b485), (.ref b485), (.ref b461)] 176 7 (hb hby d13_171) rfl (by rw [hml]; rfl) rfl rfl (lenOf pd_9 rfl) rfl (by decide) fun v505 T505 Lc505 X505 hQ505 => ?_
    obtain ⟨rfl, N505q, e505⟩ := hQ505
    have N505 := Fr.app N501 N505q
    refine own_kN 179 X505 hx (hb hby d13_176) rfl (tlt (by decide : ((0 : Int32) < (2 : Int32)))).2.1 rfl ?_
    refine own_ru 182 [(.int (0 : Int32)), (.ref l3), .null, (.ref vc0), (.ref vv), (.ref b485), (.ref b485), (.ref b461)] X505 hx hby e13_179_2 rfl rfl ?_
    have f507 := (Fld.ext E485 (Fld.other W469 ((Fld.ext E461 P12).keep K466 (own_nS (by omega) nin0)) (Or.inl (own_ne (by omega)))))
    have f508 := ((((P13.ext E461).keep K466 (own_nS (by omega) nin0)).other W469 (own_ne (by omega))).ext E485)
    refine own_cI X505 hx hZ hown (wd122 hw) (wd123 hw) (mvT hZ (wd124 hw)) (wd125 hw) (wd126 hw) (wd127 hw) (wd128 hw) (wd63 hw) (by decide) (wd129 hw) (wd34 hw) (rm16 l Z a0 hw [] l3 (0 : Int32) r3 q3 [(.ref vb0), (.ref vb1), .null, .null, .null, .null, .null, .null, .null, .null] vb0 (2 : Int32) h485 n0 (by omega) f506 f504 f507 f508 (by decide) (by decide) ⟨by decide, by decide⟩ rfl) e505 f506 [(.int (0 : Int32))] [.null, (.ref vc0), (.ref vv), (.ref b485), (.ref b485), (.ref b461)] 187 6 (hb hby d13_182) rfl (by rw [hml]; rfl) rfl rfl (lenOf pd_7 rfl) rfl (by decide) fun v509 T509 Lc509 X509 hQ509 => ?_
    obtain ⟨rfl, N509q, e509⟩ := hQ509
    have N509 := Fr.app N505 N509q
    have f510 := (Exa.ext E485 (Exa.wr W469 (Exa.keep (Exa.ext E461 P17) K466)))
    refine own_ca X509 hx hZ hown (wd143 hw) e509 (Ins.self f510) 190 rfl (hb hby d13_187) rfl fun T511 X511 e511 => ?_
    refine own_go 194 X511 hx (hb hby d13_190) (by decide) (by decide) ?_
    refine own_cRi X511 hx hZ hown rfl (wd146 hw) (wd147 hw) (by decide) (wd148 hw) (wd121 hw) (rm20 l Z a0 hw [] b485 (.ref vv) (.ref vc0) (.null) (.ref vb0) h485 n0 (by omega) A485 F486 F487 F488 F489 (by omega) rfl rfl rfl rfl) e511  [(.ref vv), (.ref vc0), .null, (.ref vb0)] [(.ref b485), (.ref b461)] 197 2 (hb hby d13_194) rfl (by rw [hml]; rfl) rfl rfl (lenOf pd_10 rfl) rfl (by decide) fun v512 T512 Lc512 X512 hQ512 => ?_
    obtain ⟨rfl, N512q, K512, G512_0, G512_1, G512_2, G512_3, G512_4⟩ := hQ512
    have N512 := Fr.app N509 N512q
    have z512 := K512.1
    have KK512 : Keep h0 T512.heap [a1] := KK485.trans K512 (allS (Or.inr (by omega)) all0)
    have lt512_0 : @LT.lt Nat _ b485 (Array.size T512.heap) := G512_0.lt
    have f513 := ((((f465.keep K466 (allS (by omega) all0)).wr W469 (by omega)).ext E485).keep K512 (allS (by omega) all0))
    have f514 := (Exa.keep (Exa.ext E485 (Exa.wr W469 G466_0)) K512)
    have f515 := ((Fld.ext E485 (Fld.other W469 G466_1 (Or.inl (own_ne (by omega))))).keep K512 (own_nS (by omega) nin0))
    have f516 := ((Fld.ext E485 (Fld.other W469 G466_2 (Or.inl (own_ne (by omega))))).keep K512 (own_nS (by omega) nin0))
    have f517 := ((Fld.ext E485 (Fld.other W469 G466_3 (Or.inl (own_ne (by omega))))).keep K512 (own_nS (by omega) nin0))
    have f518 : Ins Z T512.heap b485 "java/lang/Object" true := (Ins.of_exa G512_0 (wd159 hw))
    refine own_cI X512 hx hZ hown (wd158 hw) (wd57 hw) (mvT hZ (wd58 hw)) (wd59 hw) (wd60 hw) (wd61 hw) (wd62 hw) (wd63 hw) (by decide) (wd64 hw) (wd34 hw) (rm8z l Z a0 hw [] o_EXTRA_HIGH o_HIGH o_ZERO o_DEF kDEF o_pos cl_pos o_neg cl_neg b461 b485 (0 : Int32) T512.heap n0 (by omega) f513 A f514 f515 f516 f517 f518 (by omega)) rfl f514 [(.ref b485)] [] 202 0 (hb hby d13_197) rfl (by rw [hml]; rfl) rfl rfl (lenOf pd_11 rfl) rfl (by decide) fun v519 T519 Lc519 X519 hQ519 => ?_
    obtain ⟨ar_519, kk_519, rfl, N519q, K519, G519_0, G519_1, G519_2, G519_3, G519_4, U519_0, U519_1⟩ := hQ519
    have N519 := Fr.app N512 N519q
    have z519 := K519.1
    have KK519 : Keep h0 T519.heap [a1] := KK512.trans K519 (allS (Or.inr (by omega)) all0)
    have lt519_0 : @LT.lt Nat _ b461 (Array.size T519.heap) := G519_0.lt
    have G519_1' : fl5 Z T519.heap b461 (.int (1 : Int32)) := G519_1
    have lt519_4 : @LT.lt Nat _ ar_519 (Array.size T519.heap) := G519_4.lt
    as_aux_lemma =>
      refine own_rl 206 #[.val (.ref a1), .val (.ref l1), .val (.ref l2), .val (.ref l3), .val (.int (1 : Int32))] [] X519 hx hby e13_202_2 rfl rfl ?_
      refine own_go 105 X519 hx (hb hby d13_206) (by decide) (by decide) ?_
      refine own_ru 108 [(.ref l1), (.int (1 : Int32))] X519 hx hby e13_105_2 rfl rfl ?_
      have f520 := ((f491.keep K512 (own_nS (by omega) nin0)).keep K519 (own_nS (by omega) nin0))
      have f522 := (Exa.keep (Exa.keep f490 K512) K519)
      refine own_cI X519 hx hZ hown (wd111 hw) (wd112 hw) (mvT hZ (wd113 hw)) (wd114 hw) (wd115 hw) (wd116 hw) (wd117 hw) (wd63 hw) (by decide) (wd118 hw) (wd34 hw) (rm15 l Z a0 hw [] l1 (2 : Int32) T519.heap n0 (by omega) f520) rfl f522 [] [(.int (1 : Int32))] 113 1 (hb hby d13_108) rfl (by rw [hml]; rfl) rfl rfl (lenOf pd_9 rfl) rfl (by decide) fun v521 T521 Lc521 X521 hQ521 => ?_
      obtain ⟨rfl, N521q, e521⟩ := hQ521
      have N521 := Fr.app N519 N521q
      refine own_kN 116 X521 hx (hb hby d13_113) rfl (tlt (by decide : ((1 : Int32) < (2 : Int32)))).2.1 rfl ?_
      refine own_ru 117 [(.ref a1)] X521 hx hby e13_116_1 rfl rfl ?_
      have f523 := (((Fld.ext E485 F469).keep K512 (own_nS (by omega) nin0)).keep K519 (own_nS (by omega) nin0))
      refine own_gF X521 hx hZ hown (host := "") (Or.inl (wd101 hw)) Via.refl e521 f523 120 rfl (hb hby d13_117) rfl fun T524 X524 e524 => ?_
      refine own_nO X524 hx hZ hown (wd119 hw) (wd120 hw) (wd121 hw) e524 123 (hb hby d13_120) rfl (by decide) (by decide) fun T525 h525 b525 g525 X525 e525 E525 A525 D525 UN525 => ?_
      have ll525 : @LT.lt Nat _ b525 (Array.size h525) := A525.lt
      have KK525 : Keep h0 h525 [a1] := KK519.ext E525
      have z525 := E525.1
      have F526 : fl9 Z h525 b525 .null := D525 (Or.inr (wd151 hw)) (ty := (.object "java/math/BigInteger")) (by decide)
      have F527 : fl10 Z h525 b525 .null := D525 (Or.inr (wd153 hw)) (ty := (.object "com/example/tariff/tariff/VoltageClass")) (by decide)
      have F528 : fl11 Z h525 b525 .null := D525 (Or.inr (wd155 hw)) (ty := (.object "java/math/BigInteger")) (by decide)
      have F529 : fl12 Z h525 b525 .null := D525 (Or.inr (wd157 hw)) (ty := (.object "java/math/BigInteger")) (by decide)
      refine own_ru 127 [(.int (1 : Int32)), (.ref l1), (.ref b525), (.ref b525), (.ref b461)] X525 hx hby e13_123_3 rfl rfl ?_
      have f530 := (Exa.ext E525 f522)
      have f531 := (Fld.ext E525 f520)
      have f532 := (Fld.ext E525 ((f492.keep K512 (own_nS (by omega) nin0)).keep K519 (own_nS (by omega) nin0)))
      have f533 := (((f493.keep K512 (own_nS (by omega) nin0)).keep K519 (own_nS (by omega) nin0)).ext E525)
      refine own_cI X525 hx hZ hown (wd122 hw) (wd123 hw) (mvT hZ (wd124 hw)) (wd125 hw) (wd126 hw) (wd127 hw) (wd128 hw) (wd63 hw) (by decide) (wd129 hw) (wd34 hw) (rm16 l Z a0 hw [] l1 (1 : Int32) r1 q1 [(.ref vv), (.ref vv), .null, .null, .null, .null, .null, .null, .null, .null] vv (2 : Int32) h525 n0 (by omega) f530 f531 f532 f533 (by decide) (by decide) ⟨by decide, by decide⟩ rfl) e525 f530 [(.int (1 : Int32))] [(.ref b525), (.ref b525), (.ref b461)] 132 3 (hb hby d13_127) rfl (by rw [hml]; rfl) rfl rfl (lenOf pd_7 rfl) rfl (by decide) fun v534 T534 Lc534 X534 hQ534 => ?_
      obtain ⟨rfl, N534q, e534⟩ := hQ534
      have N534 := Fr.app N521 N534q
      have f535 := (Exa.ext E525 (Exa.keep (Exa.keep f495 K512) K519))
      refine own_ca X534 hx hZ hown (wd143 hw) e534 (Ins.self f535) 135 rfl (hb hby d13_132) rfl fun T536 X536 e536 => ?_
      refine own_ru 138 [(.int (1 : Int32)), (.ref l2), (.ref vv), (.ref b525), (.ref b525), (.ref b461)] X536 hx hby e13_135_2 rfl rfl ?_
      have f537 := (Exa.ext E525 (Exa.keep (Exa.keep f497 K512) K519))
      have f538 := (Fld.ext E525 ((f498.keep K512 (own_nS (by omega) nin0)).keep K519 (own_nS (by omega) nin0)))
      have f539 := (Fld.ext E525 ((f499.keep K512 (own_nS (by omega) nin0)).keep K519 (own_nS (by omega) nin0)))
      have f540 := (((f500.keep K512 (own_nS (by omega) nin0)).keep K519 (own_nS (by omega) nin0)).ext E525)
      refine own_cI X536 hx hZ hown (wd122 hw) (wd123 hw) (mvT hZ (wd124 hw)) (wd125 hw) (wd126 hw) (wd127 hw) (wd128 hw) (wd63 hw) (by decide) (wd129 hw) (wd34 hw) (rm16 l Z a0 hw [] l2 (1 : Int32) r2 q2 [(.ref vc0), (.ref vc1), .null, .null, .null, .null, .null, .null, .null, .null] vc1 (2 : Int32) h525 n0 (by omega) f537 f538 f539 f540 (by decide) (by decide) ⟨by decide, by decide⟩ rfl) e536 f537 [(.int (1 : Int32))] [(.ref vv), (.ref b525), (.ref b525), (.ref b461)] 143 4 (hb hby d13_138) rfl (by rw [hml]; rfl) rfl rfl (lenOf pd_7 rfl) rfl (by decide) fun v541 T541 Lc541 X541 hQ541 => ?_
      obtain ⟨rfl, N541q, e541⟩ := hQ541
      have N541 := Fr.app N534 N541q
      have f542 := (Exa.ext E525 (Exa.keep (Exa.keep (Exa.ext E485 (Exa.wr W469 (Exa.keep (Exa.ext E461 P16) K466))) K512) K519))
      refine own_ca X541 hx hZ hown (wd144 hw) e541 (Ins.self f542) 146 rfl (hb hby d13_143) rfl fun T543 X543 e543 => ?_
      refine own_ru 148 [(.int (1 : Int32)), (.ref vc1), (.ref vv), (.ref b525), (.ref b525), (.ref b461)] X543 hx hby e13_146_1 rfl rfl ?_
      refine own_iY 155 X543 hx (hb hby d13_148) rfl ((if0 _ _).trans (feq (by decide : ¬ ((1 : Int32) = (0 : Int32)))).2) (by decide) (by decide) ?_
      refine own_ru 160 [(.int (0 : Int32)), (.ref l3), (.ref vc1), (.ref vv), (.ref b525), (.ref b525), (.ref b461)] X543 hx hby e13_155_4 rfl rfl ?_
      have f544 := (Exa.ext E525 (Exa.keep (Exa.keep f506 K512) K519))
      have f545 := (Fld.ext E525 ((f504.keep K512 (own_nS (by omega) nin0)).keep K519 (own_nS (by omega) nin0)))
      have f546 := (Fld.ext E525 ((f507.keep K512 (own_nS (by omega) nin0)).keep K519 (own_nS (by omega) nin0)))
      have f547 := (((f508.keep K512 (own_nS (by omega) nin0)).keep K519 (own_nS (by omega) nin0)).ext E525)
      refine own_cI X543 hx hZ hown (wd122 hw) (wd123 hw) (mvT hZ (wd124 hw)) (wd125 hw) (wd126 hw) (wd127 hw) (wd128 hw) (wd63 hw) (by decide) (wd129 hw) (wd34 hw) (rm16 l Z a0 hw [] l3 (0 : Int32) r3 q3 [(.ref vb0), (.ref vb1), .null, .null, .null, .null, .null, .null, .null, .null] vb0 (2 : Int32) h525 n0 (by omega) f544 f545 f546 f547 (by decide) (by decide) ⟨by decide, by decide⟩ rfl) e543 f544 [(.int (0 : Int32))] [(.ref vc1), (.ref vv), (.ref b525), (.ref b525), (.ref b461)] 165 5 (hb hby d13_160) rfl (by rw [hml]; rfl) rfl rfl (lenOf pd_7 rfl) rfl (by decide) fun v548 T548 Lc548 X548 hQ548 => ?_
      obtain ⟨rfl, N548q, e548⟩ := hQ548
      have N548 := Fr.app N541 N548q
      have f549 := (Exa.ext E525 (Exa.keep (Exa.keep f510 K512) K519))
      refine own_ca X548 hx hZ hown (wd143 hw) e548 (Ins.self f549) 168 rfl (hb hby d13_165) rfl fun T550 X550 e550 => ?_
      refine own_ru 171 [(.ref l3), (.int (1 : Int32)), (.ref vb0), (.ref vc1), (.ref vv), (.ref b525), (.ref b525), (.ref b461)] X550 hx hby e13_168_2 rfl rfl ?_
      refine own_cI X550 hx hZ hown (wd111 hw) (wd112 hw) (mvT hZ (wd113 hw)) (wd114 hw) (wd115 hw) (wd116 hw) (wd117 hw) (wd63 hw) (by decide) (wd118 hw) (wd34 hw) (rm15 l Z a0 hw [] l3 (2 : Int32) h525 n0 (by omega) f545) e550 f544 [] [(.int (1 : Int32)), (.ref vb0), (.ref vc1), (.ref vv), (.ref b525), (.ref b525), (.ref b461)] 176 7 (hb hby d13_171) rfl (by rw [hml]; rfl) rfl rfl (lenOf pd_9 rfl) rfl (by decide) fun v551 T551 Lc551 X551 hQ551 => ?_
      obtain ⟨rfl, N551q, e551⟩ := hQ551
      have N551 := Fr.app N548 N551q
      refine own_kN 179 X551 hx (hb hby d13_176) rfl (tlt (by decide : ((1 : Int32) < (2 : Int32)))).2.1 rfl ?_
      refine own_ru 182 [(.int (1 : Int32)), (.ref l3), (.ref vb0), (.ref vc1), (.ref vv), (.ref b525), (.ref b525), (.ref b461)] X551 hx hby e13_179_2 rfl rfl ?_
      refine own_cI X551 hx hZ hown (wd122 hw) (wd123 hw) (mvT hZ (wd124 hw)) (wd125 hw) (wd126 hw) (wd127 hw) (wd128 hw) (wd63 hw) (by decide) (wd129 hw) (wd34 hw) (rm16 l Z a0 hw [] l3 (1 : Int32) r3 q3 [(.ref vb0), (.ref vb1), .null, .null, .null, .null, .null, .null, .null, .null] vb1 (2 : Int32) h525 n0 (by omega) f544 f545 f546 f547 (by decide) (by decide) ⟨by decide, by decide⟩ rfl) e551 f544 [(.int (1 : Int32))] [(.ref vb0), (.ref vc1), (.ref vv), (.ref b525), (.ref b525), (.ref b461)] 187 6 (hb hby d13_182) rfl (by rw [hml]; rfl) rfl rfl (lenOf pd_7 rfl) rfl (by decide) fun v552 T552 Lc552 X552 hQ552 => ?_
      obtain ⟨rfl, N552q, e552⟩ := hQ552
      have N552 := Fr.app N551 N552q
      have f553 := (Exa.ext E525 (Exa.keep (Exa.keep (Exa.ext E485 (Exa.wr W469 (Exa.keep (Exa.ext E461 P18) K466))) K512) K519))
      refine own_ca X552 hx hZ hown (wd143 hw) e552 (Ins.self f553) 190 rfl (hb hby d13_187) rfl fun T554 X554 e554 => ?_
      refine own_go 194 X554 hx (hb hby d13_190) (by decide) (by decide) ?_
      refine own_cRi X554 hx hZ hown rfl (wd146 hw) (wd147 hw) (by decide) (wd148 hw) (wd121 hw) (rm20 l Z a0 hw [] b525 (.ref vv) (.ref vc1) (.ref vb0) (.ref vb1) h525 n0 (by omega) A525 F526 F527 F528 F529 (by omega) rfl rfl rfl rfl) e554  [(.ref vv), (.ref vc1), (.ref vb0), (.ref vb1)] [(.ref b525), (.ref b461)] 197 2 (hb hby d13_194) rfl (by rw [hml]; rfl) rfl rfl (lenOf pd_10 rfl) rfl (by decide) fun v555 T555 Lc555 X555 hQ555 => ?_
      obtain ⟨rfl, N555q, K555, G555_0, G555_1, G555_2, G555_3, G555_4⟩ := hQ555
      have N555 := Fr.app N552 N555q
      have z555 := K555.1
      have KK555 : Keep h0 T555.heap [a1] := KK525.trans K555 (allS (Or.inr (by omega)) all0)
      have lt555_0 : @LT.lt Nat _ b525 (Array.size T555.heap) := G555_0.lt
      have f556 := (Exa.keep (Exa.ext E525 G519_0) K555)
      have f557 := ((Fld.ext E525 G519_1').keep K555 (own_nS (by omega) nin0))
      have f558 := ((Fld.ext E525 G519_2).keep K555 (own_nS (by omega) nin0))
      have f559 := ((Fld.ext E525 G519_3).keep K555 (own_nS (by omega) nin0))
      have f560 := ((G519_4.ext E525).keep K555 (own_nS (by omega) nin0))
      have f561 : Ins Z T555.heap b525 "java/lang/Object" true := (Ins.of_exa G555_0 (wd159 hw))
      refine own_cI X555 hx hZ hown (wd158 hw) (wd57 hw) (mvT hZ (wd58 hw)) (wd59 hw) (wd60 hw) (wd61 hw) (wd62 hw) (wd63 hw) (by decide) (wd64 hw) (wd34 hw) (rm8s1 l Z a0 hw [] b461 b525 (1 : Int32) ar_519 kk_519 [(.ref b485), .null, .null, .null, .null, .null, .null, .null, .null, .null] T555.heap n0 (by omega) f556 f557 f558 f559 f560 f561 (by omega) (by omega) rfl U519_0 (by first | assumption | decide | omega)) rfl f556 [(.ref b525)] [] 202 0 (hb hby d13_197) rfl (by rw [hml]; rfl) rfl rfl (lenOf pd_11 rfl) rfl (by decide) fun v562 T562 Lc562 X562 hQ562 => ?_
      obtain ⟨rfl, N562q, K562, G562_0, G562_1, G562_2, G562_3, G562_4⟩ := hQ562
      have N562 := Fr.app N555 N562q
      have z562 := K562.1
      have KK562 : Keep h0 T562.heap [a1] := KK555.trans K562 (allS (Or.inr (by omega)) (allS (Or.inr (by omega)) all0))
      have lt562_0 : @LT.lt Nat _ b461 (Array.size T562.heap) := G562_0.lt
      have G562_1' : fl5 Z T562.heap b461 (.int (2 : Int32)) := G562_1
      have G562_4' : Arv Z T562.heap ar_519 kk_519 (.object "java/lang/Object") (10 : Int32) [(.ref b485), (.ref b525), .null, .null, .null, .null, .null, .null, .null, .null] .null := G562_4
      have lt562_4 : @LT.lt Nat _ ar_519 (Array.size T562.heap) := G562_4.lt
      refine own_rl 206 #[.val (.ref a1), .val (.ref l1), .val (.ref l2), .val (.ref l3), .val (.int (2 : Int32))] [] X562 hx hby e13_202_2 rfl rfl ?_
      refine own_go 105 X562 hx (hb hby d13_206) (by decide) (by decide) ?_
      refine own_ru 108 [(.ref l1), (.int (2 : Int32))] X562 hx hby e13_105_2 rfl rfl ?_
      have f563 := ((f531.keep K555 (own_nS (by omega) nin0)).keep K562 (own_nS (by omega) (own_nS (by omega) nin0)))
      have f565 := (Exa.keep (Exa.keep f530 K555) K562)
      refine own_cI X562 hx hZ hown (wd111 hw) (wd112 hw) (mvT hZ (wd113 hw)) (wd114 hw) (wd115 hw) (wd116 hw) (wd117 hw) (wd63 hw) (by decide) (wd118 hw) (wd34 hw) (rm15 l Z a0 hw [] l1 (2 : Int32) T562.heap n0 (by omega) f563) rfl f565 [] [(.int (2 : Int32))] 113 1 (hb hby d13_108) rfl (by rw [hml]; rfl) rfl rfl (lenOf pd_9 rfl) rfl (by decide) fun v564 T564 Lc564 X564 hQ564 => ?_
      obtain ⟨rfl, N564q, e564⟩ := hQ564
      have N564 := Fr.app N562 N564q
      refine own_kY 209 X564 hx (hb hby d13_113) rfl (flt (by decide : ¬ ((2 : Int32) < (2 : Int32)))).2.1 (by decide) (by decide) ?_
      have f567 := (Exa.keep (Exa.keep (Exa.ext E525 (Exa.keep (Exa.keep (Exa.ext E485 (Exa.wr W469 f467)) K512) K519)) K555) K562)
      have f568 := (((Fld.ext E525 f523).keep K555 (own_nS (by omega) nin0)).keep K562 (own_nS (by omega) (own_nS (by omega) nin0)))
      have f569 := (Exa.keep G555_0 K562)
      have f570 := (G555_4.keep K562 (own_nS (by omega) (own_nS (by omega) nin0)))
      have hq566 : Q13t22 Z o_EXTRA_HIGH o_HIGH o_ZERO o_DEF kDEF o_pos cl_pos o_neg cl_neg a1 l1 l2 l3 r1 q1 r2 q2 r3 q3 vv vc0 vc1 vb0 vb1 h0 n0 none T562.heap _ := ⟨b461, ar_519, kk_519, b485, b525, rfl, N564, KK562, f567, f568, G562_0, G562_2, G562_3, G562_4', f569, f570⟩
      exact own_retV X564 hx hlk hrt (hb hby d13_209) e564 hq566 (by decide) (by decide)
theorem e13_155_2 : own_dec prog_37_method_1_code 155 [(.aload_n 3, 1), (.iload 4, 2)] = true := by decide +kernel
theorem e13_158_2 : own_dec prog_37_method_1_code 158 [(.iconst 1, 1), (.isub, 1)] = true := by decide +kernel
def Q13t32 (Z : State) (o_EXTRA_HIGH : Addr) (o_HIGH : Addr) (o_ZERO : Addr) (o_DEF : Addr) (kDEF : ClassId) (o_pos : Addr) (cl_pos : Cell) (o_neg : Addr) (cl_neg : Cell) (a1 : Addr) (l1 : Addr) (l2 : Addr) (l3 : Addr) (r1 : Addr) (q1 : ClassId) (r2 : Addr) (q2 : ClassId) (r3 : Addr) (q3 : ClassId) (vv : Addr) (vc0 : Addr) (vc1 : Addr) (vc2 : Addr) (vb0 : Addr) (vb1 : Addr) (h0 : Heap) (n0 : Nat) (v : Option Value) (h : Heap) (L : List Loc) : Prop := ∃ vl : Addr, ∃ ra : Addr, ∃ kr : ClassId, ∃ vo0 : Addr, ∃ vo1 : Addr, ∃ vo2 : Addr, v = none ∧ Fr n0 L ∧ Keep h0 h [a1] ∧ ex13 Z h a1 ∧ fl14 Z h a1 (.ref vl) ∧ ex4 Z h vl ∧ fl6 Z h vl (.int (3 : Int32)) ∧ fl7 Z h vl (.ref ra) ∧ Arv Z h ra kr (.object "java/lang/Object") (10 : Int32) [(.ref vo0), (.ref vo1), (.ref vo2), .null, .null, .null, .null, .null, .null, .null] .null ∧ ex8 Z h vo2 ∧ fl12 Z h vo2 .null
set_option maxRecDepth 65536 in
set_option maxHeartbeats 40000000 in
theorem rm13t32 (l : Launch) (Z : State) (a0 : Array Value) (hw : OW a0 Z) (ws : List Jvm.Cond) (o_EXTRA_HIGH : Addr) (o_HIGH : Addr) (o_ZERO : Addr) (o_DEF : Addr) (kDEF : ClassId) (o_pos : Addr) (cl_pos : Cell) (o_neg : Addr) (cl_neg : Cell) (a1 : Addr) (l1 : Addr) (l2 : Addr) (l3 : Addr) (r1 : Addr) (q1 : ClassId) (r2 : Addr) (q2 : ClassId) (r3 : Addr) (q3 : ClassId) (vv : Addr) (vc0 : Addr) (vc1 : Addr) (vc2 : Addr) (vb0 : Addr) (vb1 : Addr) (h0 : Heap) (n0 : Nat) (Z0 : n0 ≤ h0.size) (OLD : Old Z n0 h0) (A : Amb Z o_EXTRA_HIGH o_HIGH o_ZERO o_DEF kDEF o_pos cl_pos o_neg cl_neg) (P0 : ex13 Z h0 a1) (P1 : fl14 Z h0 a1 .null) (P2 : ex4 Z h0 l1) (P3 : fl6 Z h0 l1 (.int (3 : Int32))) (P4 : fl7 Z h0 l1 (.ref r1)) (P5 : Arv Z h0 r1 q1 (.object "java/lang/Object") (10 : Int32) [(.ref vv), (.ref vv), (.ref vv), .null, .null, .null, .null, .null, .null, .null] .null) (P6 : ex4 Z h0 l2) (P7 : fl6 Z h0 l2 (.int (3 : Int32))) (P8 : fl7 Z h0 l2 (.ref r2)) (P9 : Arv Z h0 r2 q2 (.object "java/lang/Object") (10 : Int32) [(.ref vc0), (.ref vc1), (.ref vc2), .null, .null, .null, .null, .null, .null, .null] .null) (P10 : ex4 Z h0 l3) (P11 : fl6 Z h0 l3 (.int (2 : Int32))) (P12 : fl7 Z h0 l3 (.ref r3)) (P13 : Arv Z h0 r3 q3 (.object "java/lang/Object") (10 : Int32) [(.ref vb0), (.ref vb1), .null, .null, .null, .null, .null, .null, .null, .null] .null) (P14 : ex1 Z h0 vv) (P15 : ex0 Z h0 vc0) (P16 : ex0 Z h0 vc1) (P17 : ex0 Z h0 vc2) (P18 : ex1 Z h0 vb0) (P19 : ex1 Z h0 vb1) (g_a1 : n0 ≤ a1) (hd0 : @Ne Nat a1 l1) (hd1 : @Ne Nat a1 l2) (hd2 : @Ne Nat a1 l3) (hd3 : @Ne Nat a1 r1) (hd4 : @Ne Nat a1 r2) (hd5 : @Ne Nat a1 r3) :
    own_Met l my13 prog_37_method_1_code 5 none ws (own_rm 5 5 25 69) #[(.ref a1), (.ref l1), (.ref l2), (.ref l3)] Z h0 (Q13t32 Z o_EXTRA_HIGH o_HIGH o_ZERO o_DEF kDEF o_pos cl_pos o_neg cl_neg a1 l1 l2 l3 r1 q1 r2 q2 r3 q3 vv vc0 vc1 vc2 vb0 vb1 h0 n0) 5 25 := by
  refine own_body (plainFor_of_name pn_8) (fun m => by first | (simp [entryFrame, mkF, argsToLocals, Value.category]; done) | rfl) (Ls := #[.val (.ref a1), .val (.ref l1), .val (.ref l2), .val (.ref l3), .unset]) fun p e s m below meth c s₁ X0 hx hby hml hZ e0 hown hnm hlk hrt => ?_
  have N0 := Fr.nil n0
  have lt_P0 : @LT.lt Nat _ a1 (Array.size h0) := P0.lt
  have lt_P2 : @LT.lt Nat _ l1 (Array.size h0) := P2.lt
  have lt_P5 : @LT.lt Nat _ r1 (Array.size h0) := P5.lt
  have lt_P6 : @LT.lt Nat _ l2 (Array.size h0) := P6.lt
  have lt_P9 : @LT.lt Nat _ r2 (Array.size h0) := P9.lt
  have lt_P10 : @LT.lt Nat _ l3 (Array.size h0) := P10.lt
  have lt_P13 : @LT.lt Nat _ r3 (Array.size h0) := P13.lt
  have lt_P14 : @LT.lt Nat _ vv (Array.size h0) := P14.lt
  have lt_P15 : @LT.lt Nat _ vc0 (Array.size h0) := P15.lt
  have lt_P16 : @LT.lt Nat _ vc1 (Array.size h0) := P16.lt
  have lt_P17 : @LT.lt Nat _ vc2 (Array.size h0) := P17.lt
  have lt_P18 : @LT.lt Nat _ vb0 (Array.size h0) := P18.lt
  have lt_P19 : @LT.lt Nat _ vb1 (Array.size h0) := P19.lt
  refine own_ru 1 [(.ref a1)] X0 hx hby e13_0_1 rfl rfl ?_
  refine own_iO X0 hx hZ hown (wd98 hw) (wd22 hw) (wd23 hw) e0 4 0 (by rw [hml]; rfl) rfl (hb hby d13_1) rfl (by decide) rfl (by decide) fun T571 X571 e571 => ?_
  refine own_ru 5 [(.ref a1)] X571 hx hby e13_4_1 rfl rfl ?_
  refine own_nO X571 hx hZ hown (wd99 hw) (wd33 hw) (wd34 hw) e571 8 (hb hby d13_5) rfl (by decide) (by decide) fun T572 h572 b572 g572 X572 e572 E572 A572 D572 UN572 => ?_
  have ll572 : @LT.lt Nat _ b572 (Array.size h572) := A572.lt
  have KK572 : Keep h0 h572 [a1] := (Keep.refl h0 [a1]).ext E572
  have z572 := E572.1
  have F573 : fl5 Z h572 b572 (.int (0 : Int32)) := D572 (Or.inl (wd52 hw)) (ty := .int) (by decide)
  have F574 : fl7 Z h572 b572 .null := D572 (Or.inl (wd55 hw)) (ty := (.array (.object "java/lang/Object"))) (by decide)
  have F575 : fl6 Z h572 b572 (.int (0 : Int32)) := D572 (Or.inl (wd68 hw)) (ty := .int) (by decide)
  refine own_ru 9 [(.ref b572), (.ref b572), (.ref a1)] X572 hx hby e13_8_1 rfl rfl ?_
  have f576 := (OLD.ext E572)
  refine own_cN X572 hx hZ hown rfl (wd100 hw) (wd36 hw) (by decide) (wd37 hw) (wd34 hw) (rm5 l Z a0 hw [] o_EXTRA_HIGH o_HIGH o_ZERO o_DEF kDEF o_pos cl_pos o_neg cl_neg b572 h572 n0 (by omega) f576 A A572 F573 F575 F574 (by omega)) e572  [] [(.ref b572), (.ref a1)] 12 2 (hb hby d13_9) rfl (by rw [hml]; rfl) rfl rfl (lenOf pd_0 rfl) rfl (by decide) fun v577 T577 Lc577 X577 hQ577 => ?_
  obtain ⟨rfl, N577q, K577, G577_0, G577_1, G577_2, G577_3⟩ := hQ577
  have N577 := Fr.app N0 N577q
  have z577 := K577.1
  have KK577 : Keep h0 T577.heap [a1] := KK572.trans K577 (allS (Or.inr (by omega)) all0)
  have lt577_0 : @LT.lt Nat _ b572 (Array.size T577.heap) := G577_0.lt
  have f578 := (Exa.keep (Exa.ext E572 P0) K577)
  have f579 := ((Fld.ext E572 P1).keep K577 (own_nS (by omega) nin0))
  refine own_pF X577 hx hZ hown (host := "") (Or.inl (wd101 hw)) Via.refl rfl f579 f578 (Or.inr ⟨(wd102 hw), rfl, hnm⟩) (wd93 hw) (ty := (.object "java/util/List")) (by decide) rfl rfl 15 rfl (hb hby d13_12) rfl fun T580 h580 X580 e580 W580 => ?_
  have F580 := Fld.same W580 f579
  have z580 := W580.size
  have KK580 : Keep h0 h580 [a1] := KK577.wr W580 (Or.inl (by simp))
  have N580 := Fr.snoc X580 N577 (by omega)
  refine own_ru 16 [(.ref l1)] X580 hx hby e13_15_1 rfl rfl ?_
  have f581 := (Fld.other W580 ((Fld.ext E572 P3).keep K577 (own_nS (by omega) nin0)) (Or.inl (own_ne (by omega))))
  have f583 := (Exa.wr W580 (Exa.keep (Exa.ext E572 P2) K577))
  refine own_cI X580 hx hZ hown (wd103 hw) (wd104 hw) (mvT hZ (wd105 hw)) (wd106 hw) (wd107 hw) (wd108 hw) (wd109 hw) (wd63 hw) (by decide) (wd110 hw) (wd34 hw) (rm14 l Z a0 hw [] l1 (3 : Int32) h580 n0 (by omega) f581) e580 f583 [] [] 21 0 (hb hby d13_16) rfl (by rw [hml]; rfl) rfl rfl (lenOf pd_8 rfl) rfl (by decide) fun v582 T582 Lc582 X582 hQ582 => ?_
  obtain ⟨hvc582, N582q, e582⟩ := hQ582
  have N582 := Fr.app N580 N582q
  rcases hvc582 with ⟨rfl, hp16⟩ | ⟨rfl, hp16⟩
  · exact absurd hp16 (by decide)
  · refine own_iN 24 X582 hx (hb hby d13_21) rfl ((if0 _ _).trans (teq (by decide : ((0 : Int32) = (0 : Int32)))).2) rfl ?_
    refine own_ru 25 [(.ref l2)] X582 hx hby e13_24_1 rfl rfl ?_
    have f584 := (Fld.other W580 ((Fld.ext E572 P7).keep K577 (own_nS (by omega) nin0)) (Or.inl (own_ne (by omega))))
    have f586 := (Exa.wr W580 (Exa.keep (Exa.ext E572 P6) K577))
    refine own_cI X582 hx hZ hown (wd111 hw) (wd112 hw) (mvT hZ (wd113 hw)) (wd114 hw) (wd115 hw) (wd116 hw) (wd117 hw) (wd63 hw) (by decide) (wd118 hw) (wd34 hw) (rm15 l Z a0 hw [] l2 (3 : Int32) h580 n0 (by omega) f584) e582 f586 [] [] 30 0 (hb hby d13_25) rfl (by rw [hml]; rfl) rfl rfl (lenOf pd_9 rfl) rfl (by decide) fun v585 T585 Lc585 X585 hQ585 => ?_
    obtain ⟨rfl, N585q, e585⟩ := hQ585
    have N585 := Fr.app N582 N585q
    refine own_ru 31 [(.ref l1), (.int (3 : Int32))] X585 hx hby e13_30_1 rfl rfl ?_
    refine own_cI X585 hx hZ hown (wd111 hw) (wd112 hw) (mvT hZ (wd113 hw)) (wd114 hw) (wd115 hw) (wd116 hw) (wd117 hw) (wd63 hw) (by decide) (wd118 hw) (wd34 hw) (rm15 l Z a0 hw [] l1 (3 : Int32) h580 n0 (by omega) f581) e585 f583 [] [(.int (3 : Int32))] 36 1 (hb hby d13_31) rfl (by rw [hml]; rfl) rfl rfl (lenOf pd_9 rfl) rfl (by decide) fun v587 T587 Lc587 X587 hQ587 => ?_
    obtain ⟨rfl, N587q, e587⟩ := hQ587
    have N587 := Fr.app N585 N587q
    refine own_kN 39 X587 hx (hb hby d13_36) rfl (teq (by decide : ((3 : Int32) = (3 : Int32)))).2 rfl ?_
    refine own_ru 40 [(.ref l3)] X587 hx hby e13_39_1 rfl rfl ?_
    have f588 := (Fld.other W580 ((Fld.ext E572 P11).keep K577 (own_nS (by omega) nin0)) (Or.inl (own_ne (by omega))))
    have f590 := (Exa.wr W580 (Exa.keep (Exa.ext E572 P10) K577))
    refine own_cI X587 hx hZ hown (wd111 hw) (wd112 hw) (mvT hZ (wd113 hw)) (wd114 hw) (wd115 hw) (wd116 hw) (wd117 hw) (wd63 hw) (by decide) (wd118 hw) (wd34 hw) (rm15 l Z a0 hw [] l3 (2 : Int32) h580 n0 (by omega) f588) e587 f590 [] [] 45 0 (hb hby d13_40) rfl (by rw [hml]; rfl) rfl rfl (lenOf pd_9 rfl) rfl (by decide) fun v589 T589 Lc589 X589 hQ589 => ?_
    obtain ⟨rfl, N589q, e589⟩ := hQ589
    have N589 := Fr.app N587 N589q
    refine own_ru 46 [(.ref l1), (.int (2 : Int32))] X589 hx hby e13_45_1 rfl rfl ?_
    refine own_cI X589 hx hZ hown (wd111 hw) (wd112 hw) (mvT hZ (wd113 hw)) (wd114 hw) (wd115 hw) (wd116 hw) (wd117 hw) (wd63 hw) (by decide) (wd118 hw) (wd34 hw) (rm15 l Z a0 hw [] l1 (3 : Int32) h580 n0 (by omega) f581) e589 f583 [] [(.int (2 : Int32))] 51 1 (hb hby d13_46) rfl (by rw [hml]; rfl) rfl rfl (lenOf pd_9 rfl) rfl (by decide) fun v591 T591 Lc591 X591 hQ591 => ?_
    obtain ⟨rfl, N591q, e591⟩ := hQ591
    have N591 := Fr.app N589 N591q
    refine own_ru 53 [(.int (2 : Int32)), (.int (2 : Int32))] X591 hx hby e13_51_2 rfl rfl ?_
    refine own_kN 56 X591 hx (hb hby d13_53) rfl (flt (by decide : ¬ ((2 : Int32) < (2 : Int32)))).1 rfl ?_
    refine own_ru 57 [(.ref l3)] X591 hx hby e13_56_1 rfl rfl ?_
    refine own_cI X591 hx hZ hown (wd111 hw) (wd112 hw) (mvT hZ (wd113 hw)) (wd114 hw) (wd115 hw) (wd116 hw) (wd117 hw) (wd63 hw) (by decide) (wd118 hw) (wd34 hw) (rm15 l Z a0 hw [] l3 (2 : Int32) h580 n0 (by omega) f588) e591 f590 [] [] 62 0 (hb hby d13_57) rfl (by rw [hml]; rfl) rfl rfl (lenOf pd_9 rfl) rfl (by decide) fun v592 T592 Lc592 X592 hQ592 => ?_
    obtain ⟨rfl, N592q, e592⟩ := hQ592
    have N592 := Fr.app N591 N592q
    refine own_ru 63 [(.ref l1), (.int (2 : Int32))] X592 hx hby e13_62_1 rfl rfl ?_
    refine own_cI X592 hx hZ hown (wd111 hw) (wd112 hw) (mvT hZ (wd113 hw)) (wd114 hw) (wd115 hw) (wd116 hw) (wd117 hw) (wd63 hw) (by decide) (wd118 hw) (wd34 hw) (rm15 l Z a0 hw [] l1 (3 : Int32) h580 n0 (by omega) f581) e592 f583 [] [(.int (2 : Int32))] 68 1 (hb hby d13_63) rfl (by rw [hml]; rfl) rfl rfl (lenOf pd_9 rfl) rfl (by decide) fun v593 T593 Lc593 X593 hQ593 => ?_
    obtain ⟨rfl, N593q, e593⟩ := hQ593
    have N593 := Fr.app N592 N593q
    refine own_kY 102 X593 hx (hb hby d13_68) rfl (flt (by decide : ¬ ((3 : Int32) < (2 : Int32)))).2.2.2 (by decide) (by decide) ?_
    refine own_rl 108 #[.val (.ref a1), .val (.ref l1), .val (.ref l2), .val (.ref l3), .val (.int (0 : Int32))] [(.ref l1), (.int (0 : Int32))] X593 hx hby e13_102_4 rfl rfl ?_
    refine own_cI X593 hx hZ hown (wd111 hw) (wd112 hw) (mvT hZ (wd113 hw)) (wd114 hw) (wd115 hw) (wd116 hw) (wd117 hw) (wd63 hw) (by decide) (wd118 hw) (wd34 hw) (rm15 l Z a0 hw [] l1 (3 : Int32) h580 n0 (by omega) f581) e593 f583 [] [(.int (0 : Int32))] 113 1 (hb hby d13_108) rfl (by rw [hml]; rfl) rfl rfl (lenOf pd_9 rfl) rfl (by decide) fun v594 T594 Lc594 X594 hQ594 => ?_
    obtain ⟨rfl, N594q, e594⟩ := hQ594
    have N594 := Fr.app N593 N594q
    refine own_kN 116 X594 hx (hb hby d13_113) rfl (tlt (by decide : ((0 : Int32) < (3 : Int32)))).2.1 rfl ?_
    refine own_ru 117 [(.ref a1)] X594 hx hby e13_116_1 rfl rfl ?_
    refine own_gF X594 hx hZ hown (host := "") (Or.inl (wd101 hw)) Via.refl e594 F580 120 rfl (hb hby d13_117) rfl fun T595 X595 e595 => ?_
    refine own_nO X595 hx hZ hown (wd119 hw) (wd120 hw) (wd121 hw) e595 123 (hb hby d13_120) rfl (by decide) (by decide) fun T596 h596 b596 g596 X596 e596 E596 A596 D596 UN596 => ?_
    have ll596 : @LT.lt Nat _ b596 (Array.size h596) := A596.lt
    have KK596 : Keep h0 h596 [a1] := KK580.ext E596
    have z596 := E596.1
    have F597 : fl9 Z h596 b596 .null := D596 (Or.inr (wd151 hw)) (ty := (.object "java/math/BigInteger")) (by decide)
    have F598 : fl10 Z h596 b596 .null := D596 (Or.inr (wd153 hw)) (ty := (.object "com/example/tariff/tariff/VoltageClass")) (by decide)
    have F599 : fl11 Z h596 b596 .null := D596 (Or.inr (wd155 hw)) (ty := (.object "java/math/BigInteger")) (by decide)
    have F600 : fl12 Z h596 b596 .null := D596 (Or.inr (wd157 hw)) (ty := (.object "java/math/BigInteger")) (by decide)
    refine own_ru 127 [(.int (0 : Int32)), (.ref l1), (.ref b596), (.ref b596), (.ref b572)] X596 hx hby e13_123_3 rfl rfl ?_
    have f601 := (Exa.ext E596 f583)
    have f602 := (Fld.ext E596 f581)
    have f603 := (Fld.ext E596 (Fld.other W580 ((Fld.ext E572 P4).keep K577 (own_nS (by omega) nin0)) (Or.inl (own_ne (by omega)))))
    have f604 := ((((P5.ext E572).keep K577 (own_nS (by omega) nin0)).other W580 (own_ne (by omega))).ext E596)
    refine own_cI X596 hx hZ hown (wd122 hw) (wd123 hw) (mvT hZ (wd124 hw)) (wd125 hw) (wd126 hw) (wd127 hw) (wd128 hw) (wd63 hw) (by decide) (wd129 hw) (wd34 hw) (rm16 l Z a0 hw [] l1 (0 : Int32) r1 q1 [(.ref vv), (.ref vv), (.ref vv), .null, .null, .null, .null, .null, .null, .null] vv (3 : Int32) h596 n0 (by omega) f601 f602 f603 f604 (by decide) (by decide) ⟨by decide, by decide⟩ rfl) e596 f601 [(.int (0 : Int32))] [(.ref b596), (.ref b596), (.ref b572)] 132 3 (hb hby d13_127) rfl (by rw [hml]; rfl) rfl rfl (lenOf pd_7 rfl) rfl (by decide) fun v605 T605 Lc605 X605 hQ605 => ?_
    obtain ⟨rfl, N605q, e605⟩ := hQ605
    have N605 := Fr.app N594 N605q
    have f606 := (Exa.ext E596 (Exa.wr W580 (Exa.keep (Exa.ext E572 P14) K577)))
    refine own_ca X605 hx hZ hown (wd143 hw) e605 (Ins.self f606) 135 rfl (hb hby d13_132) rfl fun T607 X607 e607 => ?_
    refine own_ru 138 [(.int (0 : Int32)), (.ref l2), (.ref vv), (.ref b596), (.ref b596), (.ref b572)] X607 hx hby e13_135_2 rfl rfl ?_
    have f608 := (Exa.ext E596 f586)
    have f609 := (Fld.ext E596 f584)
    have f610 := (Fld.ext E596 (Fld.other W580 ((Fld.ext E572 P8).keep K577 (own_nS (by omega) nin0)) (Or.inl (own_ne (by omega)))))
    have f611 := ((((P9.ext E572).keep K577 (own_nS (by omega) nin0)).other W580 (own_ne (by omega))).ext E596)
    refine own_cI X607 hx hZ hown (wd122 hw) (wd123 hw) (mvT hZ (wd124 hw)) (wd125 hw) (wd126 hw) (wd127 hw) (wd128 hw) (wd63 hw) (by decide) (wd129 hw) (wd34 hw) (rm16 l Z a0 hw [] l2 (0 : Int32) r2 q2 [(.ref vc0), (.ref vc1), (.ref vc2), .null, .null, .null, .null, .null, .null, .null] vc0 (3 : Int32) h596 n0 (by omega) f608 f609 f610 f611 (by decide) (by decide) ⟨by decide, by decide⟩ rfl) e607 f608 [(.int (0 : Int32))] [(.ref vv), (.ref b596), (.ref b596), (.ref b572)] 143 4 (hb hby d13_138) rfl (by rw [hml]; rfl) rfl rfl (lenOf pd_7 rfl) rfl (by decide) fun v612 T612 Lc612 X612 hQ612 => ?_
    obtain ⟨rfl, N612q, e612⟩ := hQ612
    have N612 := Fr.app N605 N612q
    have f613 := (Exa.ext E596 (Exa.wr W580 (Exa.keep (Exa.ext E572 P15) K577)))
    refine own_ca X612 hx hZ hown (wd144 hw) e612 (Ins.self f613) 146 rfl (hb hby d13_143) rfl fun T614 X614 e614 => ?_
    refine own_ru 148 [(.int (0 : Int32)), (.ref vc0), (.ref vv), (.ref b596), (.ref b596), (.ref b572)] X614 hx hby e13_146_1 rfl rfl ?_
    refine own_iN 151 X614 hx (hb hby d13_148) rfl ((if0 _ _).trans (teq (by decide : ((0 : Int32) = (0 : Int32)))).2) rfl ?_
    refine own_ru 152 [.null, (.ref vc0), (.ref vv), (.ref b596), (.ref b596), (.ref b572)] X614 hx hby e13_151_1 rfl rfl ?_
    refine own_go 168 X614 hx (hb hby d13_152) (by decide) (by decide) ?_
    refine own_ru 171 [(.ref l3), (.int (0 : Int32)), .null, (.ref vc0), (.ref vv), (.ref b596), (.ref b596), (.ref b572)] X614 hx hby e13_168_2 rfl rfl ?_
    have f615 := (Fld.ext E596 f588)
    have f617 := (Exa.ext E596 f590)
    refine own_cI X614 hx hZ hown (wd111 hw) (wd112 hw) (mvT hZ (wd113 hw)) (wd114 hw) (wd115 hw) (wd116 hw) (wd117 hw) (wd63 hw) (by decide) (wd118 hw) (wd34 hw) (rm15 l Z a0 hw [] l3 (2 : Int32) h596 n0 (by omega) f615) e614 f617 [] [(.int (0 : Int32)), .null, (.ref vc0), (.ref vv), (.ref b596), (.ref b596), (.ref b572)] 176 7 (hb hby d13_171) rfl (by rw [hml]; rfl) rfl rfl (lenOf pd_9 rfl) rfl (by decide) fun v616 T616 Lc616 X616 hQ616 => ?_
    obtain ⟨rfl, N616q, e616⟩ := hQ616
    have N616 := Fr.app N612 N616q
    refine own_kN 179 X616 hx (hb hby d13_176) rfl (tlt (by decide : ((0 : Int32) < (2 : Int32)))).2.1 rfl ?_
    refine own_ru 182 [(.int (0 : Int32)), (.ref l3), .null, (.ref vc0), (.ref vv), (.ref b596), (.ref b596), (.ref b572)] X616 hx hby e13_179_2 rfl rfl ?_
    have f618 := (Fld.ext E596 (Fld.other W580 ((Fld.ext E572 P12).keep K577 (own_nS (by omega) nin0)) (Or.inl (own_ne (by omega)))))
    have f619 := ((((P13.ext E572).keep K577 (own_nS (by omega) nin0)).other W580 (own_ne (by omega))).ext E596)
    refine own_cI X616 hx hZ hown (wd122 hw) (wd123 hw) (mvT hZ (wd124 hw)) (wd125 hw) (wd126 hw) (wd127 hw) (wd128 hw) (wd63 hw) (by decide) (wd129 hw) (wd34 hw) (rm16 l Z a0 hw [] l3 (0 : Int32) r3 q3 [(.ref vb0), (.ref vb1), .null, .null, .null, .null, .null, .null, .null, .null] vb0 (2 : Int32) h596 n0 (by omega) f617 f615 f618 f619 (by decide) (by decide) ⟨by decide, by decide⟩ rfl) e616 f617 [(.int (0 : Int32))] [.null, (.ref vc0), (.ref vv), (.ref b596), (.ref b596), (.ref b572)] 187 6 (hb hby d13_182) rfl (by rw [hml]; rfl) rfl rfl (lenOf pd_7 rfl) rfl (by decide) fun v620 T620 Lc620 X620 hQ620 => ?_
    obtain ⟨rfl, N620q, e620⟩ := hQ620
    have N620 := Fr.app N616 N620q
    have f621 := (Exa.ext E596 (Exa.wr W580 (Exa.keep (Exa.ext E572 P18) K577)))
    refine own_ca X620 hx hZ hown (wd143 hw) e620 (Ins.self f621) 190 rfl (hb hby d13_187) rfl fun T622 X622 e622 => ?_
    refine own_go 194 X622 hx (hb hby d13_190) (by decide) (by decide) ?_
    refine own_cRi X622 hx hZ hown rfl (wd146 hw) (wd147 hw) (by decide) (wd148 hw) (wd121 hw) (rm20 l Z a0 hw [] b596 (.ref vv) (.ref vc0) (.null) (.ref vb0) h596 n0 (by omega) A596 F597 F598 F599 F600 (by omega) rfl rfl rfl rfl) e622  [(.ref vv), (.ref vc0), .null, (.ref vb0)] [(.ref b596), (.ref b572)] 197 2 (hb hby d13_194) rfl (by rw [hml]; rfl) rfl rfl (lenOf pd_10 rfl) rfl (by decide) fun v623 T623 Lc623 X623 hQ623 => ?_
    obtain ⟨rfl, N623q, K623, G623_0, G623_1, G623_2, G623_3, G623_4⟩ := hQ623
    have N623 := Fr.app N620 N623q
    have z623 := K623.1
    have KK623 : Keep h0 T623.heap [a1] := KK596.trans K623 (allS (Or.inr (by omega)) all0)
    have lt623_0 : @LT.lt Nat _ b596 (Array.size T623.heap) := G623_0.lt
    have f624 := ((((f576.keep K577 (allS (by omega) all0)).wr W580 (by omega)).ext E596).keep K623 (allS (by omega) all0))
    have f625 := (Exa.keep (Exa.ext E596 (Exa.wr W580 G577_0)) K623)
    have f626 := ((Fld.ext E596 (Fld.other W580 G577_1 (Or.inl (own_ne (by omega))))).keep K623 (own_nS (by omega) nin0))
    have f627 := ((Fld.ext E596 (Fld.other W580 G577_2 (Or.inl (own_ne (by omega))))).keep K623 (own_nS (by omega) nin0))
    have f628 := ((Fld.ext E596 (Fld.other W580 G577_3 (Or.inl (own_ne (by omega))))).keep K623 (own_nS (by omega) nin0))
    have f629 : Ins Z T623.heap b596 "java/lang/Object" true := (Ins.of_exa G623_0 (wd159 hw))
    refine own_cI X623 hx hZ hown (wd158 hw) (wd57 hw) (mvT hZ (wd58 hw)) (wd59 hw) (wd60 hw) (wd61 hw) (wd62 hw) (wd63 hw) (by decide) (wd64 hw) (wd34 hw) (rm8z l Z a0 hw [] o_EXTRA_HIGH o_HIGH o_ZERO o_DEF kDEF o_pos cl_pos o_neg cl_neg b572 b596 (0 : Int32) T623.heap n0 (by omega) f624 A f625 f626 f627 f628 f629 (by omega)) rfl f625 [(.ref b596)] [] 202 0 (hb hby d13_197) rfl (by rw [hml]; rfl) rfl rfl (lenOf pd_11 rfl) rfl (by decide) fun v630 T630 Lc630 X630 hQ630 => ?_
    obtain ⟨ar_630, kk_630, rfl, N630q, K630, G630_0, G630_1, G630_2, G630_3, G630_4, U630_0, U630_1⟩ := hQ630
    have N630 := Fr.app N623 N630q
    have z630 := K630.1
    have KK630 : Keep h0 T630.heap [a1] := KK623.trans K630 (allS (Or.inr (by omega)) all0)
    have lt630_0 : @LT.lt Nat _ b572 (Array.size T630.heap) := G630_0.lt
    have G630_1' : fl5 Z T630.heap b572 (.int (1 : Int32)) := G630_1
    have lt630_4 : @LT.lt Nat _ ar_630 (Array.size T630.heap) := G630_4.lt
    as_aux_lemma =>
      refine own_rl 206 #[.val (.ref a1), .val (.ref l1), .val (.ref l2), .val (.ref l3), .val (.int (1 : Int32))] [] X630 hx hby e13_202_2 rfl rfl ?_
      refine own_go 105 X630 hx (hb hby d13_206) (by decide) (by decide) ?_
      refine own_ru 108 [(.ref l1), (.int (1 : Int32))] X630 hx hby e13_105_2 rfl rfl ?_
      have f631 := ((f602.keep K623 (own_nS (by omega) nin0)).keep K630 (own_nS (by omega) nin0))
      have f633 := (Exa.keep (Exa.keep f601 K623) K630)
      refine own_cI X630 hx hZ hown (wd111 hw) (wd112 hw) (mvT hZ (wd113 hw)) (wd114 hw) (wd115 hw) (wd116 hw) (wd117 hw) (wd63 hw) (by decide) (wd118 hw) (wd34 hw) (rm15 l Z a0 hw [] l1 (3 : Int32) T630.heap n0 (by omega) f631) rfl f633 [] [(.int (1 : Int32))] 113 1 (hb hby d13_108) rfl (by rw [hml]; rfl) rfl rfl (lenOf pd_9 rfl) rfl (by decide) fun v632 T632 Lc632 X632 hQ632 => ?_
      obtain ⟨rfl, N632q, e632⟩ := hQ632
      have N632 := Fr.app N630 N632q
      refine own_kN 116 X632 hx (hb hby d13_113) rfl (tlt (by decide : ((1 : Int32) < (3 : Int32)))).2.1 rfl ?_
      refine own_ru 117 [(.ref a1)] X632 hx hby e13_116_1 rfl rfl ?_
      have f634 := (((Fld.ext E596 F580).keep K623 (own_nS (by omega) nin0)).keep K630 (own_nS (by omega) nin0))
      refine own_gF X632 hx hZ hown (host := "") (Or.inl (wd101 hw)) Via.refl e632 f634 120 rfl (hb hby d13_117) rfl fun T635 X635 e635 => ?_
      refine own_nO X635 hx hZ hown (wd119 hw) (wd120 hw) (wd121 hw) e635 123 (hb hby d13_120) rfl (by decide) (by decide) fun T636 h636 b636 g636 X636 e636 E636 A636 D636 UN636 => ?_
      have ll636 : @LT.lt Nat _ b636 (Array.size h636) := A636.lt
      have KK636 : Keep h0 h636 [a1] := KK630.ext E636
      have z636 := E636.1
      have F637 : fl9 Z h636 b636 .null := D636 (Or.inr (wd151 hw)) (ty := (.object "java/math/BigInteger")) (by decide)
      have F638 : fl10 Z h636 b636 .null := D636 (Or.inr (wd153 hw)) (ty := (.object "com/example/tariff/tariff/VoltageClass")) (by decide)
      have F639 : fl11 Z h636 b636 .null := D636 (Or.inr (wd155 hw)) (ty := (.object "java/math/BigInteger")) (by decide)
      have F640 : fl12 Z h636 b636 .null := D636 (Or.inr (wd157 hw)) (ty := (.object "java/math/BigInteger")) (by decide)
      refine own_ru 127 [(.int (1 : Int32)), (.ref l1), (.ref b636), (.ref b636), (.ref b572)] X636 hx hby e13_123_3 rfl rfl ?_
      have f641 := (Exa.ext E636 f633)
      have f642 := (Fld.ext E636 f631)
      have f643 := (Fld.ext E636 ((f603.keep K623 (own_nS (by omega) nin0)).keep K630 (own_nS (by omega) nin0)))
      have f644 := (((f604.keep K623 (own_nS (by omega) nin0)).keep K630 (own_nS (by omega) nin0)).ext E636)
      refine own_cI X636 hx hZ hown (wd122 hw) (wd123 hw) (mvT hZ (wd124 hw)) (wd125 hw) (wd126 hw) (wd127 hw) (wd128 hw) (wd63 hw) (by decide) (wd129 hw) (wd34 hw) (rm16 l Z a0 hw [] l1 (1 : Int32) r1 q1 [(.ref vv), (.ref vv), (.ref vv), .null, .null, .null, .null, .null, .null, .null] vv (3 : Int32) h636 n0 (by omega) f641 f642 f643 f644 (by decide) (by decide) ⟨by decide, by decide⟩ rfl) e636 f641 [(.int (1 : Int32))] [(.ref b636), (.ref b636), (.ref b572)] 132 3 (hb hby d13_127) rfl (by rw [hml]; rfl) rfl rfl (lenOf pd_7 rfl) rfl (by decide) fun v645 T645 Lc645 X645 hQ645 => ?_
      obtain ⟨rfl, N645q, e645⟩ := hQ645
      have N645 := Fr.app N632 N645q
      have f646 := (Exa.ext E636 (Exa.keep (Exa.keep f606 K623) K630))
      refine own_ca X645 hx hZ hown (wd143 hw) e645 (Ins.self f646) 135 rfl (hb hby d13_132) rfl fun T647 X647 e647 => ?_
      refine own_ru 138 [(.int (1 : Int32)), (.ref l2), (.ref vv), (.ref b636), (.ref b636), (.ref b572)] X647 hx hby e13_135_2 rfl rfl ?_
      have f648 := (Exa.ext E636 (Exa.keep (Exa.keep f608 K623) K630))
      have f649 := (Fld.ext E636 ((f609.keep K623 (own_nS (by omega) nin0)).keep K630 (own_nS (by omega) nin0)))
      have f650 := (Fld.ext E636 ((f610.keep K623 (own_nS (by omega) nin0)).keep K630 (own_nS (by omega) nin0)))
      have f651 := (((f611.keep K623 (own_nS (by omega) nin0)).keep K630 (own_nS (by omega) nin0)).ext E636)
      refine own_cI X647 hx hZ hown (wd122 hw) (wd123 hw) (mvT hZ (wd124 hw)) (wd125 hw) (wd126 hw) (wd127 hw) (wd128 hw) (wd63 hw) (by decide) (wd129 hw) (wd34 hw) (rm16 l Z a0 hw [] l2 (1 : Int32) r2 q2 [(.ref vc0), (.ref vc1), (.ref vc2), .null, .null, .null, .null, .null, .null, .null] vc1 (3 : Int32) h636 n0 (by omega) f648 f649 f650 f651 (by decide) (by decide) ⟨by decide, by decide⟩ rfl) e647 f648 [(.int (1 : Int32))] [(.ref vv), (.ref b636), (.ref b636), (.ref b572)] 143 4 (hb hby d13_138) rfl (by rw [hml]; rfl) rfl rfl (lenOf pd_7 rfl) rfl (by decide) fun v652 T652 Lc652 X652 hQ652 => ?_
      obtain ⟨rfl, N652q, e652⟩ := hQ652
      have N652 := Fr.app N645 N652q
      have f653 := (Exa.ext E636 (Exa.keep (Exa.keep (Exa.ext E596 (Exa.wr W580 (Exa.keep (Exa.ext E572 P16) K577))) K623) K630))
      refine own_ca X652 hx hZ hown (wd144 hw) e652 (Ins.self f653) 146 rfl (hb hby d13_143) rfl fun T654 X654 e654 => ?_
      refine own_ru 148 [(.int (1 : Int32)), (.ref vc1), (.ref vv), (.ref b636), (.ref b636), (.ref b572)] X654 hx hby e13_146_1 rfl rfl ?_
      refine own_iY 155 X654 hx (hb hby d13_148) rfl ((if0 _ _).trans (feq (by decide : ¬ ((1 : Int32) = (0 : Int32)))).2) (by decide) (by decide) ?_
      refine own_ru 160 [(.int (0 : Int32)), (.ref l3), (.ref vc1), (.ref vv), (.ref b636), (.ref b636), (.ref b572)] X654 hx hby e13_155_4 rfl rfl ?_
      have f655 := (Exa.ext E636 (Exa.keep (Exa.keep f617 K623) K630))
      have f656 := (Fld.ext E636 ((f615.keep K623 (own_nS (by omega) nin0)).keep K630 (own_nS (by omega) nin0)))
      have f657 := (Fld.ext E636 ((f618.keep K623 (own_nS (by omega) nin0)).keep K630 (own_nS (by omega) nin0)))
      have f658 := (((f619.keep K623 (own_nS (by omega) nin0)).keep K630 (own_nS (by omega) nin0)).ext E636)
      refine own_cI X654 hx hZ hown (wd122 hw) (wd123 hw) (mvT hZ (wd124 hw)) (wd125 hw) (wd126 hw) (wd127 hw) (wd128 hw) (wd63 hw) (by decide) (wd129 hw) (wd34 hw) (rm16 l Z a0 hw [] l3 (0 : Int32) r3 q3 [(.ref vb0), (.ref vb1), .null, .null, .null, .null, .null, .null, .null, .null] vb0 (2 : Int32) h636 n0 (by omega) f655 f656 f657 f658 (by decide) (by decide) ⟨by decide, by decide⟩ rfl) e654 f655 [(.int (0 : Int32))] [(.ref vc1), (.ref vv), (.ref b636), (.ref b636), (.ref b572)] 165 5 (hb hby d13_160) rfl (by rw [hml]; rfl) rfl rfl (lenOf pd_7 rfl) rfl (by decide) fun v659 T659 Lc659 X659 hQ659 => ?_
      obtain ⟨rfl, N659q, e659⟩ := hQ659
      have N659 := Fr.app N652 N659q
      have f660 := (Exa.ext E636 (Exa.keep (Exa.keep f621 K623) K630))
      refine own_ca X659 hx hZ hown (wd143 hw) e659 (Ins.self f660) 168 rfl (hb hby d13_165) rfl fun T661 X661 e661 => ?_
      refine own_ru 171 [(.ref l3), (.int (1 : Int32)), (.ref vb0), (.ref vc1), (.ref vv), (.ref b636), (.ref b636), (.ref b572)] X661 hx hby e13_168_2 rfl rfl ?_
      refine own_cI X661 hx hZ hown (wd111 hw) (wd112 hw) (mvT hZ (wd113 hw)) (wd114 hw) (wd115 hw) (wd116 hw) (wd117 hw) (wd63 hw) (by decide) (wd118 hw) (wd34 hw) (rm15 l Z a0 hw [] l3 (2 : Int32) h636 n0 (by omega) f656) e661 f655 [] [(.int (1 : Int32)), (.ref vb0), (.ref vc1), (.ref vv), (.ref b636), (.ref b636), (.ref b572)] 176 7 (hb hby d13_171) rfl (by rw [hml]; rfl) rfl rfl (lenOf pd_9 rfl) rfl (by decide) fun v662 T662 Lc662 X662 hQ662 => ?_
      obtain ⟨rfl, N662q, e662⟩ := hQ662
      have N662 := Fr.app N659 N662q
      refine own_kN 179 X662 hx (hb hby d13_176) rfl (tlt (by decide : ((1 : Int32) < (2 : Int32)))).2.1 rfl ?_
      refine own_ru 182 [(.int (1 : Int32)), (.ref l3), (.ref vb0), (.ref vc1), (.ref vv), (.ref b636), (.ref b636), (.ref b572)] X662 hx hby e13_179_2 rfl rfl ?_
      refine own_cI X662 hx hZ hown (wd122 hw) (wd123 hw) (mvT hZ (wd124 hw)) (wd125 hw) (wd126 hw) (wd127 hw) (wd128 hw) (wd63 hw) (by decide) (wd129 hw) (wd34 hw) (rm16 l Z a0 hw [] l3 (1 : Int32) r3 q3 [(.ref vb0), (.ref vb1), .null, .null, .null, .null, .null, .null, .null, .null] vb1 (2 : Int32) h636 n0 (by omega) f655 f656 f657 f658 (by decide) (by decide) ⟨by decide, by decide⟩ rfl) e662 f655 [(.int (1 : Int32))] [(.ref vb0), (.ref vc1), (.ref vv), (.ref b636), (.ref b636), (.ref b572)] 187 6 (hb hby d13_182) rfl (by rw [hml]; rfl) rfl rfl (lenOf pd_7 rfl) rfl (by decide) fun v663 T663 Lc663 X663 hQ663 => ?_
      obtain ⟨rfl, N663q, e663⟩ := hQ663
      have N663 := Fr.app N662 N663q
      have f664 := (Exa.ext E636 (Exa.keep (Exa.keep (Exa.ext E596 (Exa.wr W580 (Exa.keep (Exa.ext E572 P19) K577))) K623) K630))
      refine own_ca X663 hx hZ hown (wd143 hw) e663 (Ins.self f664) 190 rfl (hb hby d13_187) rfl fun T665 X665 e665 => ?_
      refine own_go 194 X665 hx (hb hby d13_190) (by decide) (by decide) ?_
      refine own_cRi X665 hx hZ hown rfl (wd146 hw) (wd147 hw) (by decide) (wd148 hw) (wd121 hw) (rm20 l Z a0 hw [] b636 (.ref vv) (.ref vc1) (.ref vb0) (.ref vb1) h636 n0 (by omega) A636 F637 F638 F639 F640 (by omega) rfl rfl rfl rfl) e665  [(.ref vv), (.ref vc1), (.ref vb0), (.ref vb1)] [(.ref b636), (.ref b572)] 197 2 (hb hby d13_194) rfl (by rw [hml]; rfl) rfl rfl (lenOf pd_10 rfl) rfl (by decide) fun v666 T666 Lc666 X666 hQ666 => ?_
      obtain ⟨rfl, N666q, K666, G666_0, G666_1, G666_2, G666_3, G666_4⟩ := hQ666
      have N666 := Fr.app N663 N666q
      have z666 := K666.1
      have KK666 : Keep h0 T666.heap [a1] := KK636.trans K666 (allS (Or.inr (by omega)) all0)
      have lt666_0 : @LT.lt Nat _ b636 (Array.size T666.heap) := G666_0.lt
      have f667 := (Exa.keep (Exa.ext E636 G630_0) K666)
      have f668 := ((Fld.ext E636 G630_1').keep K666 (own_nS (by omega) nin0))
      have f669 := ((Fld.ext E636 G630_2).keep K666 (own_nS (by omega) nin0))
      have f670 := ((Fld.ext E636 G630_3).keep K666 (own_nS (by omega) nin0))
      have f671 := ((G630_4.ext E636).keep K666 (own_nS (by omega) nin0))
      have f672 : Ins Z T666.heap b636 "java/lang/Object" true := (Ins.of_exa G666_0 (wd159 hw))
      refine own_cI X666 hx hZ hown (wd158 hw) (wd57 hw) (mvT hZ (wd58 hw)) (wd59 hw) (wd60 hw) (wd61 hw) (wd62 hw) (wd63 hw) (by decide) (wd64 hw) (wd34 hw) (rm8s1 l Z a0 hw [] b572 b636 (1 : Int32) ar_630 kk_630 [(.ref b596), .null, .null, .null, .null, .null, .null, .null, .null, .null] T666.heap n0 (by omega) f667 f668 f669 f670 f671 f672 (by omega) (by omega) rfl U630_0 (by first | assumption | decide | omega)) rfl f667 [(.ref b636)] [] 202 0 (hb hby d13_197) rfl (by rw [hml]; rfl) rfl rfl (lenOf pd_11 rfl) rfl (by decide) fun v673 T673 Lc673 X673 hQ673 => ?_
      obtain ⟨rfl, N673q, K673, G673_0, G673_1, G673_2, G673_3, G673_4⟩ := hQ673
      have N673 := Fr.app N666 N673q
      have z673 := K673.1
      have KK673 : Keep h0 T673.heap [a1] := KK666.trans K673 (allS (Or.inr (by omega)) (allS (Or.inr (by omega)) all0))
      have lt673_0 : @LT.lt Nat _ b572 (Array.size T673.heap) := G673_0.lt
      have G673_1' : fl5 Z T673.heap b572 (.int (2 : Int32)) := G673_1
      have G673_4' : Arv Z T673.heap ar_630 kk_630 (.object "java/lang/Object") (10 : Int32) [(.ref b596), (.ref b636), .null, .null, .null, .null, .null, .null, .null, .null] .null := G673_4
      have lt673_4 : @LT.lt Nat _ ar_630 (Array.size T673.heap) := G673_4.lt
      refine own_rl 206 #[.val (.ref a1), .val (.ref l1), .val (.ref l2), .val (.ref l3), .val (.int (2 : Int32))] [] X673 hx hby e13_202_2 rfl rfl ?_
      refine own_go 105 X673 hx (hb hby d13_206) (by decide) (by decide) ?_
      refine own_ru 108 [(.ref l1), (.int (2 : Int32))] X673 hx hby e13_105_2 rfl rfl ?_
      have f674 := ((f642.keep K666 (own_nS (by omega) nin0)).keep K673 (own_nS (by omega) (own_nS (by omega) nin0)))
      have f676 := (Exa.keep (Exa.keep f641 K666) K673)
      refine own_cI X673 hx hZ hown (wd111 hw) (wd112 hw) (mvT hZ (wd113 hw)) (wd114 hw) (wd115 hw) (wd116 hw) (wd117 hw) (wd63 hw) (by decide) (wd118 hw) (wd34 hw) (rm15 l Z a0 hw [] l1 (3 : Int32) T673.heap n0 (by omega) f674) rfl f676 [] [(.int (2 : Int32))] 113 1 (hb hby d13_108) rfl (by rw [hml]; rfl) rfl rfl (lenOf pd_9 rfl) rfl (by decide) fun v675 T675 Lc675 X675 hQ675 => ?_
      obtain ⟨rfl, N675q, e675⟩ := hQ675
      have N675 := Fr.app N673 N675q
      refine own_kN 116 X675 hx (hb hby d13_113) rfl (tlt (by decide : ((2 : Int32) < (3 : Int32)))).2.1 rfl ?_
      refine own_ru 117 [(.ref a1)] X675 hx hby e13_116_1 rfl rfl ?_
      have f677 := (((Fld.ext E636 f634).keep K666 (own_nS (by omega) nin0)).keep K673 (own_nS (by omega) (own_nS (by omega) nin0)))
      refine own_gF X675 hx hZ hown (host := "") (Or.inl (wd101 hw)) Via.refl e675 f677 120 rfl (hb hby d13_117) rfl fun T678 X678 e678 => ?_
      refine own_nO X678 hx hZ hown (wd119 hw) (wd120 hw) (wd121 hw) e678 123 (hb hby d13_120) rfl (by decide) (by decide) fun T679 h679 b679 g679 X679 e679 E679 A679 D679 UN679 => ?_
      have ll679 : @LT.lt Nat _ b679 (Array.size h679) := A679.lt
      have KK679 : Keep h0 h679 [a1] := KK673.ext E679
      have z679 := E679.1
      have F680 : fl9 Z h679 b679 .null := D679 (Or.inr (wd151 hw)) (ty := (.object "java/math/BigInteger")) (by decide)
      have F681 : fl10 Z h679 b679 .null := D679 (Or.inr (wd153 hw)) (ty := (.object "com/example/tariff/tariff/VoltageClass")) (by decide)
      have F682 : fl11 Z h679 b679 .null := D679 (Or.inr (wd155 hw)) (ty := (.object "java/math/BigInteger")) (by decide)
      have F683 : fl12 Z h679 b679 .null := D679 (Or.inr (wd157 hw)) (ty := (.object "java/math/BigInteger")) (by decide)
      refine own_ru 127 [(.int (2 : Int32)), (.ref l1), (.ref b679), (.ref b679), (.ref b572)] X679 hx hby e13_123_3 rfl rfl ?_
      have f684 := (Exa.ext E679 f676)
      have f685 := (Fld.ext E679 f674)
      have f686 := (Fld.ext E679 ((f643.keep K666 (own_nS (by omega) nin0)).keep K673 (own_nS (by omega) (own_nS (by omega) nin0))))
      have f687 := (((f644.keep K666 (own_nS (by omega) nin0)).keep K673 (own_nS (by omega) (own_nS (by omega) nin0))).ext E679)
      refine own_cI X679 hx hZ hown (wd122 hw) (wd123 hw) (mvT hZ (wd124 hw)) (wd125 hw) (wd126 hw) (wd127 hw) (wd128 hw) (wd63 hw) (by decide) (wd129 hw) (wd34 hw) (rm16 l Z a0 hw [] l1 (2 : Int32) r1 q1 [(.ref vv), (.ref vv), (.ref vv), .null, .null, .null, .null, .null, .null, .null] vv (3 : Int32) h679 n0 (by omega) f684 f685 f686 f687 (by decide) (by decide) ⟨by decide, by decide⟩ rfl) e679 f684 [(.int (2 : Int32))] [(.ref b679), (.ref b679), (.ref b572)] 132 3 (hb hby d13_127) rfl (by rw [hml]; rfl) rfl rfl (lenOf pd_7 rfl) rfl (by decide) fun v688 T688 Lc688 X688 hQ688 => ?_
      obtain ⟨rfl, N688q, e688⟩ := hQ688
      have N688 := Fr.app N675 N688q
      have f689 := (Exa.ext E679 (Exa.keep (Exa.keep f646 K666) K673))
      refine own_ca X688 hx hZ hown (wd143 hw) e688 (Ins.self f689) 135 rfl (hb hby d13_132) rfl fun T690 X690 e690 => ?_
      refine own_ru 138 [(.int (2 : Int32)), (.ref l2), (.ref vv), (.ref b679), (.ref b679), (.ref b572)] X690 hx hby e13_135_2 rfl rfl ?_
      have f691 := (Exa.ext E679 (Exa.keep (Exa.keep f648 K666) K673))
      have f692 := (Fld.ext E679 ((f649.keep K666 (own_nS (by omega) nin0)).keep K673 (own_nS (by omega) (own_nS (by omega) nin0))))
      have f693 := (Fld.ext E679 ((f650.keep K666 (own_nS (by omega) nin0)).keep K673 (own_nS (by omega) (own_nS (by omega) nin0))))
      have f694 := (((f651.keep K666 (own_nS (by omega) nin0)).keep K673 (own_nS (by omega) (own_nS (by omega) nin0))).ext E679)
      refine own_cI X690 hx hZ hown (wd122 hw) (wd123 hw) (mvT hZ (wd124 hw)) (wd125 hw) (wd126 hw) (wd127 hw) (wd128 hw) (wd63 hw) (by decide) (wd129 hw) (wd34 hw) (rm16 l Z a0 hw [] l2 (2 : Int32) r2 q2 [(.ref vc0), (.ref vc1), (.ref vc2), .null, .null, .null, .null, .null, .null, .null] vc2 (3 : Int32) h679 n0 (by omega) f691 f692 f693 f694 (by decide) (by decide) ⟨by decide, by decide⟩ rfl) e690 f691 [(.int (2 : Int32))] [(.ref vv), (.ref b679), (.ref b679), (.ref b572)] 143 4 (hb hby d13_138) rfl (by rw [hml]; rfl) rfl rfl (lenOf pd_7 rfl) rfl (by decide) fun v695 T695 Lc695 X695 hQ695 => ?_
      obtain ⟨rfl, N695q, e695⟩ := hQ695
      have N695 := Fr.app N688 N695q
      have f696 := (Exa.ext E679 (Exa.keep (Exa.keep (Exa.ext E636 (Exa.keep (Exa.keep (Exa.ext E596 (Exa.wr W580 (Exa.keep (Exa.ext E572 P17) K577))) K623) K630)) K666) K673))
      refine own_ca X695 hx hZ hown (wd144 hw) e695 (Ins.self f696) 146 rfl (hb hby d13_143) rfl fun T697 X697 e697 => ?_
      refine own_ru 148 [(.int (2 : Int32)), (.ref vc2), (.ref vv), (.ref b679), (.ref b679), (.ref b572)] X697 hx hby e13_146_1 rfl rfl ?_
      refine own_iY 155 X697 hx (hb hby d13_148) rfl ((if0 _ _).trans (feq (by decide : ¬ ((2 : Int32) = (0 : Int32)))).2) (by decide) (by decide) ?_
      refine own_ru 158 [(.int (2 : Int32)), (.ref l3), (.ref vc2), (.ref vv), (.ref b679), (.ref b679), (.ref b572)] X697 hx hby e13_155_2 rfl rfl ?_
      as_aux_lemma =>
        refine own_ru 160 [(.int (1 : Int32)), (.ref l3), (.ref vc2), (.ref vv), (.ref b679), (.ref b679), (.ref b572)] X697 hx hby e13_158_2 rfl rfl ?_
        have f698 := (Exa.ext E679 (Exa.keep (Exa.keep f655 K666) K673))
        have f699 := (Fld.ext E679 ((f656.keep K666 (own_nS (by omega) nin0)).keep K673 (own_nS (by omega) (own_nS (by omega) nin0))))
        have f700 := (Fld.ext E679 ((f657.keep K666 (own_nS (by omega) nin0)).keep K673 (own_nS (by omega) (own_nS (by omega) nin0))))
        have f701 := (((f658.keep K666 (own_nS (by omega) nin0)).keep K673 (own_nS (by omega) (own_nS (by omega) nin0))).ext E679)
        refine own_cI X697 hx hZ hown (wd122 hw) (wd123 hw) (mvT hZ (wd124 hw)) (wd125 hw) (wd126 hw) (wd127 hw) (wd128 hw) (wd63 hw) (by decide) (wd129 hw) (wd34 hw) (rm16 l Z a0 hw [] l3 (1 : Int32) r3 q3 [(.ref vb0), (.ref vb1), .null, .null, .null, .null, .null, .null, .null, .null] vb1 (2 : Int32) h679 n0 (by omega) f698 f699 f700 f701 (by decide) (by decide) ⟨by decide, by decide⟩ rfl) e697 f698 [(.int (1 : Int32))] [(.ref vc2), (.ref vv), (.ref b679), (.ref b679), (.ref b572)] 165 5 (hb hby d13_160) rfl (by rw [hml]; rfl) rfl rfl (lenOf pd_7 rfl) rfl (by decide) fun v702 T702 Lc702 X702 hQ702 => ?_
        obtain ⟨rfl, N702q, e702⟩ := hQ702
        have N702 := Fr.app N695 N702q
        have f703 := (Exa.ext E679 (Exa.keep (Exa.keep f664 K666) K673))
        refine own_ca X702 hx hZ hown (wd143 hw) e702 (Ins.self f703) 168 rfl (hb hby d13_165) rfl fun T704 X704 e704 => ?_
        refine own_ru 171 [(.ref l3), (.int (2 : Int32)), (.ref vb1), (.ref vc2), (.ref vv), (.ref b679), (.ref b679), (.ref b572)] X704 hx hby e13_168_2 rfl rfl ?_
        refine own_cI X704 hx hZ hown (wd111 hw) (wd112 hw) (mvT hZ (wd113 hw)) (wd114 hw) (wd115 hw) (wd116 hw) (wd117 hw) (wd63 hw) (by decide) (wd118 hw) (wd34 hw) (rm15 l Z a0 hw [] l3 (2 : Int32) h679 n0 (by omega) f699) e704 f698 [] [(.int (2 : Int32)), (.ref vb1), (.ref vc2), (.ref vv), (.ref b679), (.ref b679), (.ref b572)] 176 7 (hb hby d13_171) rfl (by rw [hml]; rfl) rfl rfl (lenOf pd_9 rfl) rfl (by decide) fun v705 T705 Lc705 X705 hQ705 => ?_
        obtain ⟨rfl, N705q, e705⟩ := hQ705
        have N705 := Fr.app N702 N705q
        refine own_kY 193 X705 hx (hb hby d13_176) rfl (flt (by decide : ¬ ((2 : Int32) < (2 : Int32)))).2.1 (by decide) (by decide) ?_
        refine own_ru 194 [.null, (.ref vb1), (.ref vc2), (.ref vv), (.ref b679), (.ref b679), (.ref b572)] X705 hx hby e13_193_1 rfl rfl ?_
        refine own_cRi X705 hx hZ hown rfl (wd146 hw) (wd147 hw) (by decide) (wd148 hw) (wd121 hw) (rm20 l Z a0 hw [] b679 (.ref vv) (.ref vc2) (.ref vb1) (.null) h679 n0 (by omega) A679 F680 F681 F682 F683 (by omega) rfl rfl rfl rfl) e705  [(.ref vv), (.ref vc2), (.ref vb1), .null] [(.ref b679), (.ref b572)] 197 2 (hb hby d13_194) rfl (by rw [hml]; rfl) rfl rfl (lenOf pd_10 rfl) rfl (by decide) fun v706 T706 Lc706 X706 hQ706 => ?_
        obtain ⟨rfl, N706q, K706, G706_0, G706_1, G706_2, G706_3, G706_4⟩ := hQ706
        have N706 := Fr.app N705 N706q
        have z706 := K706.1
        have KK706 : Keep h0 T706.heap [a1] := KK679.trans K706 (allS (Or.inr (by omega)) all0)
        have lt706_0 : @LT.lt Nat _ b679 (Array.size T706.heap) := G706_0.lt
        have f707 := (Exa.keep (Exa.ext E679 G673_0) K706)
        have f708 := ((Fld.ext E679 G673_1').keep K706 (own_nS (by omega) nin0))
        have f709 := ((Fld.ext E679 G673_2).keep K706 (own_nS (by omega) nin0))
        have f710 := ((Fld.ext E679 G673_3).keep K706 (own_nS (by omega) nin0))
        have f711 := ((G673_4'.ext E679).keep K706 (own_nS (by omega) nin0))
        have f712 : Ins Z T706.heap b679 "java/lang/Object" true := (Ins.of_exa G706_0 (wd159 hw))
        refine own_cI X706 hx hZ hown (wd158 hw) (wd57 hw) (mvT hZ (wd58 hw)) (wd59 hw) (wd60 hw) (wd61 hw) (wd62 hw) (wd63 hw) (by decide) (wd64 hw) (wd34 hw) (rm8s2 l Z a0 hw [] b572 b679 (2 : Int32) ar_630 kk_630 [(.ref b596), (.ref b636), .null, .null, .null, .null, .null, .null, .null, .null] T706.heap n0 (by omega) f707 f708 f709 f710 f711 f712 (by omega) (by omega) rfl U630_0 (by first | assumption | decide | omega)) rfl f707 [(.ref b679)] [] 202 0 (hb hby d13_197) rfl (by rw [hml]; rfl) rfl rfl (lenOf pd_11 rfl) rfl (by decide) fun v713 T713 Lc713 X713 hQ713 => ?_
        obtain ⟨rfl, N713q, K713, G713_0, G713_1, G713_2, G713_3, G713_4⟩ := hQ713
        have N713 := Fr.app N706 N713q
        have z713 := K713.1
        have KK713 : Keep h0 T713.heap [a1] := KK706.trans K713 (allS (Or.inr (by omega)) (allS (Or.inr (by omega)) all0))
        have lt713_0 : @LT.lt Nat _ b572 (Array.size T713.heap) := G713_0.lt
        have G713_1' : fl5 Z T713.heap b572 (.int (3 : Int32)) := G713_1
        have G713_4' : Arv Z T713.heap ar_630 kk_630 (.object "java/lang/Object") (10 : Int32) [(.ref b596), (.ref b636), (.ref b679), .null, .null, .null, .null, .null, .null, .null] .null := G713_4
        have lt713_4 : @LT.lt Nat _ ar_630 (Array.size T713.heap) := G713_4.lt
        refine own_rl 206 #[.val (.ref a1), .val (.ref l1), .val (.ref l2), .val (.ref l3), .val (.int (3 : Int32))] [] X713 hx hby e13_202_2 rfl rfl ?_
        refine own_go 105 X713 hx (hb hby d13_206) (by decide) (by decide) ?_
        refine own_ru 108 [(.ref l1), (.int (3 : Int32))] X713 hx hby e13_105_2 rfl rfl ?_
        have f714 := ((f685.keep K706 (own_nS (by omega) nin0)).keep K713 (own_nS (by omega) (own_nS (by omega) nin0)))
        have f716 := (Exa.keep (Exa.keep f684 K706) K713)
        refine own_cI X713 hx hZ hown (wd111 hw) (wd112 hw) (mvT hZ (wd113 hw)) (wd114 hw) (wd115 hw) (wd116 hw) (wd117 hw) (wd63 hw) (by decide) (wd118 hw) (wd34 hw) (rm15 l Z a0 hw [] l1 (3 : Int32) T713.heap n0 (by omega) f714) rfl f716 [] [(.int (3 : Int32))] 113 1 (hb hby d13_108) rfl (by rw [hml]; rfl) rfl rfl (lenOf pd_9 rfl) rfl (by decide) fun v715 T715 Lc715 X715 hQ715 => ?_
        obtain ⟨rfl, N715q, e715⟩ := hQ715
        have N715 := Fr.app N713 N715q
        refine own_kY 209 X715 hx (hb hby d13_113) rfl (flt (by decide : ¬ ((3 : Int32) < (3 : Int32)))).2.1 (by decide) (by decide) ?_
        have f718 := (Exa.keep (Exa.keep (Exa.ext E679 (Exa.keep (Exa.keep (Exa.ext E636 (Exa.keep (Exa.keep (Exa.ext E596 (Exa.wr W580 f578)) K623) K630)) K666) K673)) K706) K713)
        have f719 := (((Fld.ext E679 f677).keep K706 (own_nS (by omega) nin0)).keep K713 (own_nS (by omega) (own_nS (by omega) nin0)))
        have f720 := (Exa.keep G706_0 K713)
        have f721 := (G706_4.keep K713 (own_nS (by omega) (own_nS (by omega) nin0)))
        have hq717 : Q13t32 Z o_EXTRA_HIGH o_HIGH o_ZERO o_DEF kDEF o_pos cl_pos o_neg cl_neg a1 l1 l2 l3 r1 q1 r2 q2 r3 q3 vv vc0 vc1 vc2 vb0 vb1 h0 n0 none T713.heap _ := ⟨b572, ar_630, kk_630, b596, b636, b679, rfl, N715, KK713, f718, f719, G713_0, G713_2, G713_3, G713_4', f720, f721⟩
        exact own_retV X715 hx hlk hrt (hb hby d13_209) e715 hq717 (by decide) (by decide)
def Q13t33 (Z : State) (o_EXTRA_HIGH : Addr) (o_HIGH : Addr) (o_ZERO : Addr) (o_DEF : Addr) (kDEF : ClassId) (o_pos : Addr) (cl_pos : Cell) (o_neg : Addr) (cl_neg : Cell) (a1 : Addr) (l1 : Addr) (l2 : Addr) (l3 : Addr) (r1 : Addr) (q1 : ClassId) (r2 : Addr) (q2 : ClassId) (r3 : Addr) (q3 : ClassId) (vv : Addr) (vc0 : Addr) (vc1 : Addr) (vc2 : Addr) (vb0 : Addr) (vb1 : Addr) (vb2 : Addr) (h0 : Heap) (n0 : Nat) (v : Option Value) (h : Heap) (L : List Loc) : Prop := ∃ vl : Addr, ∃ ra : Addr, ∃ kr : ClassId, ∃ vo0 : Addr, ∃ vo1 : Addr, ∃ vo2 : Addr, v = none ∧ Fr n0 L ∧ Keep h0 h [a1] ∧ ex13 Z h a1 ∧ fl14 Z h a1 (.ref vl) ∧ ex4 Z h vl ∧ fl6 Z h vl (.int (3 : Int32)) ∧ fl7 Z h vl (.ref ra) ∧ Arv Z h ra kr (.object "java/lang/Object") (10 : Int32) [(.ref vo0), (.ref vo1), (.ref vo2), .null, .null, .null, .null, .null, .null, .null] .null ∧ ex8 Z h vo2 ∧ fl12 Z h vo2 (.ref vb2)
set_option maxRecDepth 65536 in
set_option maxHeartbeats 40000000 in
theorem rm13t33 (l : Launch) (Z : State) (a0 : Array Value) (hw : OW a0 Z) (ws : List Jvm.Cond) (o_EXTRA_HIGH : Addr) (o_HIGH : Addr) (o_ZERO : Addr) (o_DEF : Addr) (kDEF : ClassId) (o_pos : Addr) (cl_pos : Cell) (o_neg : Addr) (cl_neg : Cell) (a1 : Addr) (l1 : Addr) (l2 : Addr) (l3 : Addr) (r1 : Addr) (q1 : ClassId) (r2 : Addr) (q2 : ClassId) (r3 : Addr) (q3 : ClassId) (vv : Addr) (vc0 : Addr) (vc1 : Addr) (vc2 : Addr) (vb0 : Addr) (vb1 : Addr) (vb2 : Addr) (h0 : Heap) (n0 : Nat) (Z0 : n0 ≤ h0.size) (OLD : Old Z n0 h0) (A : Amb Z o_EXTRA_HIGH o_HIGH o_ZERO o_DEF kDEF o_pos cl_pos o_neg cl_neg) (P0 : ex13 Z h0 a1) (P1 : fl14 Z h0 a1 .null) (P2 : ex4 Z h0 l1) (P3 : fl6 Z h0 l1 (.int (3 : Int32))) (P4 : fl7 Z h0 l1 (.ref r1)) (P5 : Arv Z h0 r1 q1 (.object "java/lang/Object") (10 : Int32) [(.ref vv), (.ref vv), (.ref vv), .null, .null, .null, .null, .null, .null, .null] .null) (P6 : ex4 Z h0 l2) (P7 : fl6 Z h0 l2 (.int (3 : Int32))) (P8 : fl7 Z h0 l2 (.ref r2)) (P9 : Arv Z h0 r2 q2 (.object "java/lang/Object") (10 : Int32) [(.ref vc0), (.ref vc1), (.ref vc2), .null, .null, .null, .null, .null, .null, .null] .null) (P10 : ex4 Z h0 l3) (P11 : fl6 Z h0 l3 (.int (3 : Int32))) (P12 : fl7 Z h0 l3 (.ref r3)) (P13 : Arv Z h0 r3 q3 (.object "java/lang/Object") (10 : Int32) [(.ref vb0), (.ref vb1), (.ref vb2), .null, .null, .null, .null, .null, .null, .null] .null) (P14 : ex1 Z h0 vv) (P15 : ex0 Z h0 vc0) (P16 : ex0 Z h0 vc1) (P17 : ex0 Z h0 vc2) (P18 : ex1 Z h0 vb0) (P19 : ex1 Z h0 vb1) (P20 : ex1 Z h0 vb2) (g_a1 : n0 ≤ a1) (hd0 : @Ne Nat a1 l1) (hd1 : @Ne Nat a1 l2) (hd2 : @Ne Nat a1 l3) (hd3 : @Ne Nat a1 r1) (hd4 : @Ne Nat a1 r2) (hd5 : @Ne Nat a1 r3) :
    own_Met l my13 prog_37_method_1_code 5 none ws (own_rm 5 5 25 69) #[(.ref a1), (.ref l1), (.ref l2), (.ref l3)] Z h0 (Q13t33 Z o_EXTRA_HIGH o_HIGH o_ZERO o_DEF kDEF o_pos cl_pos o_neg cl_neg a1 l1 l2 l3 r1 q1 r2 q2 r3 q3 vv vc0 vc1 vc2 vb0 vb1 vb2 h0 n0) 5 25 := by
  refine own_body (plainFor_of_name pn_8) (fun m => by first | (simp [entryFrame, mkF, argsToLocals, Value.category]; done) | rfl) (Ls := #[.val (.ref a1), .val (.ref l1), .val (.ref l2), .val (.ref l3), .unset]) fun p e s m below meth c s₁ X0 hx hby hml hZ e0 hown hnm hlk hrt => ?_
  have N0 := Fr.nil n0
  have lt_P0 : @LT.lt Nat _ a1 (Array.size h0) := P0.lt
  have lt_P2 : @LT.lt Nat _ l1 (Array.size h0) := P2.lt
  have lt_P5 : @LT.lt Nat _ r1 (Array.size h0) := P5.lt
  have lt_P6 : @LT.lt Nat _ l2 (Array.size h0) := P6.lt
  have lt_P9 : @LT.lt Nat _ r2 (Array.size h0) := P9.lt
  have lt_P10 : @LT.lt Nat _ l3 (Array.size h0) := P10.lt
  have lt_P13 : @LT.lt Nat _ r3 (Array.size h0) := P13.lt
  have lt_P14 : @LT.lt Nat _ vv (Array.size h0) := P14.lt
  have lt_P15 : @LT.lt Nat _ vc0 (Array.size h0) := P15.lt
  have lt_P16 : @LT.lt Nat _ vc1 (Array.size h0) := P16.lt
  have lt_P17 : @LT.lt Nat _ vc2 (Array.size h0) := P17.lt
  have lt_P18 : @LT.lt Nat _ vb0 (Array.size h0) := P18.lt
  have lt_P19 : @LT.lt Nat _ vb1 (Array.size h0) := P19.lt
  have lt_P20 : @LT.lt Nat _ vb2 (Array.size h0) := P20.lt
  refine own_ru 1 [(.ref a1)] X0 hx hby e13_0_1 rfl rfl ?_
  refine own_iO X0 hx hZ hown (wd98 hw) (wd22 hw) (wd23 hw) e0 4 0 (by rw [hml]; rfl) rfl (hb hby d13_1) rfl (by decide) rfl (by decide) fun T722 X722 e722 => ?_
  refine own_ru 5 [(.ref a1)] X722 hx hby e13_4_1 rfl rfl ?_
  refine own_nO X722 hx hZ hown (wd99 hw) (wd33 hw) (wd34 hw) e722 8 (hb hby d13_5) rfl (by decide) (by decide) fun T723 h723 b723 g723 X723 e723 E723 A723 D723 UN723 => ?_
  have ll723 : @LT.lt Nat _ b723 (Array.size h723) := A723.lt
  have KK723 : Keep h0 h723 [a1] := (Keep.refl h0 [a1]).ext E723
  have z723 := E723.1
  have F724 : fl5 Z h723 b723 (.int (0 : Int32)) := D723 (Or.inl (wd52 hw)) (ty := .int) (by decide)
  have F725 : fl7 Z h723 b723 .null := D723 (Or.inl (wd55 hw)) (ty := (.array (.object "java/lang/Object"))) (by decide)
  have F726 : fl6 Z h723 b723 (.int (0 : Int32)) := D723 (Or.inl (wd68 hw)) (ty := .int) (by decide)
  refine own_ru 9 [(.ref b723), (.ref b723), (.ref a1)] X723 hx hby e13_8_1 rfl rfl ?_
  have f727 := (OLD.ext E723)
  refine own_cN X723 hx hZ hown rfl (wd100 hw) (wd36 hw) (by decide) (wd37 hw) (wd34 hw) (rm5 l Z a0 hw [] o_EXTRA_HIGH o_HIGH o_ZERO o_DEF kDEF o_pos cl_pos o_neg cl_neg b723 h723 n0 (by omega) f727 A A723 F724 F726 F725 (by omega)) e723  [] [(.ref b723), (.ref a1)] 12 2 (hb hby d13_9) rfl (by rw [hml]; rfl) rfl rfl (lenOf pd_0 rfl) rfl (by decide) fun v728 T728 Lc728 X728 hQ728 => ?_
  obtain ⟨rfl, N728q, K728, G728_0, G728_1, G728_2, G728_3⟩ := hQ728
  have N728 := Fr.app N0 N728q
  have z728 := K728.1
  have KK728 : Keep h0 T728.heap [a1] := KK723.trans K728 (allS (Or.inr (by omega)) all0)
  have lt728_0 : @LT.lt Nat _ b723 (Array.size T728.heap) := G728_0.lt
  have f729 := (Exa.keep (Exa.ext E723 P0) K728)
  have f730 := ((Fld.ext E723 P1).keep K728 (own_nS (by omega) nin0))
  refine own_pF X728 hx hZ hown (host := "") (Or.inl (wd101 hw)) Via.refl rfl f730 f729 (Or.inr ⟨(wd102 hw), rfl, hnm⟩) (wd93 hw) (ty := (.object "java/util/List")) (by decide) rfl rfl 15 rfl (hb hby d13_12) rfl fun T731 h731 X731 e731 W731 => ?_
  have F731 := Fld.same W731 f730
  have z731 := W731.size
  have KK731 : Keep h0 h731 [a1] := KK728.wr W731 (Or.inl (by simp))
  have N731 := Fr.snoc X731 N728 (by omega)
  refine own_ru 16 [(.ref l1)] X731 hx hby e13_15_1 rfl rfl ?_
  have f732 := (Fld.other W731 ((Fld.ext E723 P3).keep K728 (own_nS (by omega) nin0)) (Or.inl (own_ne (by omega))))
  have f734 := (Exa.wr W731 (Exa.keep (Exa.ext E723 P2) K728))
  refine own_cI X731 hx hZ hown (wd103 hw) (wd104 hw) (mvT hZ (wd105 hw)) (wd106 hw) (wd107 hw) (wd108 hw) (wd109 hw) (wd63 hw) (by decide) (wd110 hw) (wd34 hw) (rm14 l Z a0 hw [] l1 (3 : Int32) h731 n0 (by omega) f732) e731 f734 [] [] 21 0 (hb hby d13_16) rfl (by rw [hml]; rfl) rfl rfl (lenOf pd_8 rfl) rfl (by decide) fun v733 T733 Lc733 X733 hQ733 => ?_
  obtain ⟨hvc733, N733q, e733⟩ := hQ733
  have N733 := Fr.app N731 N733q
  rcases hvc733 with ⟨rfl, hp16⟩ | ⟨rfl, hp16⟩
  · exact absurd hp16 (by decide)
  · refine own_iN 24 X733 hx (hb hby d13_21) rfl ((if0 _ _).trans (teq (by decide : ((0 : Int32) = (0 : Int32)))).2) rfl ?_
    refine own_ru 25 [(.ref l2)] X733 hx hby e13_24_1 rfl rfl ?_
    have f735 := (Fld.other W731 ((Fld.ext E723 P7).keep K728 (own_nS (by omega) nin0)) (Or.inl (own_ne (by omega))))
    have f737 := (Exa.wr W731 (Exa.keep (Exa.ext E723 P6) K728))
    refine own_cI X733 hx hZ hown (wd111 hw) (wd112 hw) (mvT hZ (wd113 hw)) (wd114 hw) (wd115 hw) (wd116 hw) (wd117 hw) (wd63 hw) (by decide) (wd118 hw) (wd34 hw) (rm15 l Z a0 hw [] l2 (3 : Int32) h731 n0 (by omega) f735) e733 f737 [] [] 30 0 (hb hby d13_25) rfl (by rw [hml]; rfl) rfl rfl (lenOf pd_9 rfl) rfl (by decide) fun v736 T736 Lc736 X736 hQ736 => ?_
    obtain ⟨rfl, N736q, e736⟩ := hQ736
    have N736 := Fr.app N733 N736q
    refine own_ru 31 [(.ref l1), (.int (3 : Int32))] X736 hx hby e13_30_1 rfl rfl ?_
    refine own_cI X736 hx hZ hown (wd111 hw) (wd112 hw) (mvT hZ (wd113 hw)) (wd114 hw) (wd115 hw) (wd116 hw) (wd117 hw) (wd63 hw) (by decide) (wd118 hw) (wd34 hw) (rm15 l Z a0 hw [] l1 (3 : Int32) h731 n0 (by omega) f732) e736 f734 [] [(.int (3 : Int32))] 36 1 (hb hby d13_31) rfl (by rw [hml]; rfl) rfl rfl (lenOf pd_9 rfl) rfl (by decide) fun v738 T738 Lc738 X738 hQ738 => ?_
    obtain ⟨rfl, N738q, e738⟩ := hQ738
    have N738 := Fr.app N736 N738q
    refine own_kN 39 X738 hx (hb hby d13_36) rfl (teq (by decide : ((3 : Int32) = (3 : Int32)))).2 rfl ?_
    refine own_ru 40 [(.ref l3)] X738 hx hby e13_39_1 rfl rfl ?_
    have f739 := (Fld.other W731 ((Fld.ext E723 P11).keep K728 (own_nS (by omega) nin0)) (Or.inl (own_ne (by omega))))
    have f741 := (Exa.wr W731 (Exa.keep (Exa.ext E723 P10) K728))
    refine own_cI X738 hx hZ hown (wd111 hw) (wd112 hw) (mvT hZ (wd113 hw)) (wd114 hw) (wd115 hw) (wd116 hw) (wd117 hw) (wd63 hw) (by decide) (wd118 hw) (wd34 hw) (rm15 l Z a0 hw [] l3 (3 : Int32) h731 n0 (by omega) f739) e738 f741 [] [] 45 0 (hb hby d13_40) rfl (by rw [hml]; rfl) rfl rfl (lenOf pd_9 rfl) rfl (by decide) fun v740 T740 Lc740 X740 hQ740 => ?_
    obtain ⟨rfl, N740q, e740⟩ := hQ740
    have N740 := Fr.app N738 N740q
    refine own_ru 46 [(.ref l1), (.int (3 : Int32))] X740 hx hby e13_45_1 rfl rfl ?_
    refine own_cI X740 hx hZ hown (wd111 hw) (wd112 hw) (mvT hZ (wd113 hw)) (wd114 hw) (wd115 hw) (wd116 hw) (wd117 hw) (wd63 hw) (by decide) (wd118 hw) (wd34 hw) (rm15 l Z a0 hw [] l1 (3 : Int32) h731 n0 (by omega) f732) e740 f734 [] [(.int (3 : Int32))] 51 1 (hb hby d13_46) rfl (by rw [hml]; rfl) rfl rfl (lenOf pd_9 rfl) rfl (by decide) fun v742 T742 Lc742 X742 hQ742 => ?_
    obtain ⟨rfl, N742q, e742⟩ := hQ742
    have N742 := Fr.app N740 N742q
    refine own_ru 53 [(.int (2 : Int32)), (.int (3 : Int32))] X742 hx hby e13_51_2 rfl rfl ?_
    refine own_kN 56 X742 hx (hb hby d13_53) rfl (flt (by decide : ¬ ((3 : Int32) < (2 : Int32)))).1 rfl ?_
    refine own_ru 57 [(.ref l3)] X742 hx hby e13_56_1 rfl rfl ?_
    refine own_cI X742 hx hZ hown (wd111 hw) (wd112 hw) (mvT hZ (wd113 hw)) (wd114 hw) (wd115 hw) (wd116 hw) (wd117 hw) (wd63 hw) (by decide) (wd118 hw) (wd34 hw) (rm15 l Z a0 hw [] l3 (3 : Int32) h731 n0 (by omega) f739) e742 f741 [] [] 62 0 (hb hby d13_57) rfl (by rw [hml]; rfl) rfl rfl (lenOf pd_9 rfl) rfl (by decide) fun v743 T743 Lc743 X743 hQ743 => ?_
    obtain ⟨rfl, N743q, e743⟩ := hQ743
    have N743 := Fr.app N742 N743q
    refine own_ru 63 [(.ref l1), (.int (3 : Int32))] X743 hx hby e13_62_1 rfl rfl ?_
    refine own_cI X743 hx hZ hown (wd111 hw) (wd112 hw) (mvT hZ (wd113 hw)) (wd114 hw) (wd115 hw) (wd116 hw) (wd117 hw) (wd63 hw) (by decide) (wd118 hw) (wd34 hw) (rm15 l Z a0 hw [] l1 (3 : Int32) h731 n0 (by omega) f732) e743 f734 [] [(.int (3 : Int32))] 68 1 (hb hby d13_63) rfl (by rw [hml]; rfl) rfl rfl (lenOf pd_9 rfl) rfl (by decide) fun v744 T744 Lc744 X744 hQ744 => ?_
    obtain ⟨rfl, N744q, e744⟩ := hQ744
    have N744 := Fr.app N743 N744q
    refine own_kY 102 X744 hx (hb hby d13_68) rfl (flt (by decide : ¬ ((3 : Int32) < (3 : Int32)))).2.2.2 (by decide) (by decide) ?_
    refine own_rl 108 #[.val (.ref a1), .val (.ref l1), .val (.ref l2), .val (.ref l3), .val (.int (0 : Int32))] [(.ref l1), (.int (0 : Int32))] X744 hx hby e13_102_4 rfl rfl ?_
    refine own_cI X744 hx hZ hown (wd111 hw) (wd112 hw) (mvT hZ (wd113 hw)) (wd114 hw) (wd115 hw) (wd116 hw) (wd117 hw) (wd63 hw) (by decide) (wd118 hw) (wd34 hw) (rm15 l Z a0 hw [] l1 (3 : Int32) h731 n0 (by omega) f732) e744 f734 [] [(.int (0 : Int32))] 113 1 (hb hby d13_108) rfl (by rw [hml]; rfl) rfl rfl (lenOf pd_9 rfl) rfl (by decide) fun v745 T745 Lc745 X745 hQ745 => ?_
    obtain ⟨rfl, N745q, e745⟩ := hQ745
    have N745 := Fr.app N744 N745q
    refine own_kN 116 X745 hx (hb hby d13_113) rfl (tlt (by decide : ((0 : Int32) < (3 : Int32)))).2.1 rfl ?_
    refine own_ru 117 [(.ref a1)] X745 hx hby e13_116_1 rfl rfl ?_
    refine own_gF X745 hx hZ hown (host := "") (Or.inl (wd101 hw)) Via.refl e745 F731 120 rfl (hb hby d13_117) rfl fun T746 X746 e746 => ?_
    refine own_nO X746 hx hZ hown (wd119 hw) (wd120 hw) (wd121 hw) e746 123 (hb hby d13_120) rfl (by decide) (by decide) fun T747 h747 b747 g747 X747 e747 E747 A747 D747 UN747 => ?_
    have ll747 : @LT.lt Nat _ b747 (Array.size h747) := A747.lt
    have KK747 : Keep h0 h747 [a1] := KK731.ext E747
    have z747 := E747.1
    have F748 : fl9 Z h747 b747 .null := D747 (Or.inr (wd151 hw)) (ty := (.object "java/math/BigInteger")) (by decide)
    have F749 : fl10 Z h747 b747 .null := D747 (Or.inr (wd153 hw)) (ty := (.object "com/example/tariff/tariff/VoltageClass")) (by decide)
    have F750 : fl11 Z h747 b747 .null := D747 (Or.inr (wd155 hw)) (ty := (.object "java/math/BigInteger")) (by decide)
    have F751 : fl12 Z h747 b747 .null := D747 (Or.inr (wd157 hw)) (ty := (.object "java/math/BigInteger")) (by decide)
    refine own_ru 127 [(.int (0 : Int32)), (.ref l1), (.ref b747), (.ref b747), (.ref b723)] X747 hx hby e13_123_3 rfl rfl ?_
    have f752 := (Exa.ext E747 f734)
    have f753 := (Fld.ext E747 f732)
    have f754 := (Fld.ext E747 (Fld.other W731 ((Fld.ext E723 P4).keep K728 (own_nS (by omega) nin0)) (Or.inl (own_ne (by omega)))))
    have f755 := ((((P5.ext E723).keep K728 (own_nS (by omega) nin0)).other W731 (own_ne (by omega))).ext E747)
    refine own_cI X747 hx hZ hown (wd122 hw) (wd123 hw) (mvT hZ (wd124 hw)) (wd125 hw) (wd126 hw) (wd127 hw) (wd128 hw) (wd63 hw) (by decide) (wd129 hw) (wd34 hw) (rm16 l Z a0 hw [] l1 (0 : Int32) r1 q1 [(.ref vv), (.ref vv), (.ref vv), .null, .null, .null, .null, .null, .null, .null] vv (3 : Int32) h747 n0 (by omega) f752 f753 f754 f755 (by decide) (by decide) ⟨by decide, by decide⟩ rfl) e747 f752 [(.int (0 : Int32))] [(.ref b747), (.ref b747), (.ref b723)] 132 3 (hb hby d13_127) rfl (by rw [hml]; rfl) rfl rfl (lenOf pd_7 rfl) rfl (by decide) fun v756 T756 Lc756 X756 hQ756 => ?_
    obtain ⟨rfl, N756q, e756⟩ := hQ756
    have N756 := Fr.app N745 N756q
    have f757 := (Exa.ext E747 (Exa.wr W731 (Exa.keep (Exa.ext E723 P14) K728)))
    refine own_ca X756 hx hZ hown (wd143 hw) e756 (Ins.self f757) 135 rfl (hb hby d13_132) rfl fun T758 X758 e758 => ?_
    refine own_ru 138 [(.int (0 : Int32)), (.ref l2), (.ref vv), (.ref b747), (.ref b747), (.ref b723)] X758 hx hby e13_135_2 rfl rfl ?_
    have f759 := (Exa.ext E747 f737)
    have f760 := (Fld.ext E747 f735)
    have f761 := (Fld.ext E747 (Fld.other W731 ((Fld.ext E723 P8).keep K728 (own_nS (by omega) nin0)) (Or.inl (own_ne (by omega)))))
    have f762 := ((((P9.ext E723).keep K728 (own_nS (by omega) nin0)).other W731 (own_ne (by omega))).ext E747)
    refine own_cI X758 hx hZ hown (wd122 hw) (wd123 hw) (mvT hZ (wd124 hw)) (wd125 hw) (wd126 hw) (wd127 hw) (wd128 hw) (wd63 hw) (by decide) (wd129 hw) (wd34 hw) (rm16 l Z a0 hw [] l2 (0 : Int32) r2 q2 [(.ref vc0), (.ref vc1), (.ref vc2), .null, .null, .null, .null, .null, .null, .null] vc0 (3 : Int32) h747 n0 (by omega) f759 f760 f761 f762 (by decide) (by decide) ⟨by decide, by decide⟩ rfl) e758 f759 [(.int (0 : Int32))] [(.ref vv), (.ref b747), (.ref b747), (.ref b723)] 143 4 (hb hby d13_138) rfl (by rw [hml]; rfl) rfl rfl (lenOf pd_7 rfl) rfl (by decide) fun v763 T763 Lc763 X763 hQ763 => ?_
    obtain ⟨rfl, N763q, e763⟩ := hQ763
    have N763 := Fr.app N756 N763q
    have f764 := (Exa.ext E747 (Exa.wr W731 (Exa.keep (Exa.ext E723 P15) K728)))
    refine own_ca X763 hx hZ hown (wd144 hw) e763 (Ins.self f764) 146 rfl (hb hby d13_143) rfl fun T765 X765 e765 => ?_
    refine own_ru 148 [(.int (0 : Int32)), (.ref vc0), (.ref vv), (.ref b747), (.ref b747), (.ref b723)] X765 hx hby e13_146_1 rfl rfl ?_
    refine own_iN 151 X765 hx (hb hby d13_148) rfl ((if0 _ _).trans (teq (by decide : ((0 : Int32) = (0 : Int32)))).2) rfl ?_
    refine own_ru 152 [.null, (.ref vc0), (.ref vv), (.ref b747), (.ref b747), (.ref b723)] X765 hx hby e13_151_1 rfl rfl ?_
    refine own_go 168 X765 hx (hb hby d13_152) (by decide) (by decide) ?_
    refine own_ru 171 [(.ref l3), (.int (0 : Int32)), .null, (.ref vc0), (.ref vv), (.ref b747), (.ref b747), (.ref b723)] X765 hx hby e13_168_2 rfl rfl ?_
    have f766 := (Fld.ext E747 f739)
    have f768 := (Exa.ext E747 f741)
    refine own_cI X765 hx hZ hown (wd111 hw) (wd112 hw) (mvT hZ (wd113 hw)) (wd114 hw) (wd115 hw) (wd116 hw) (wd117 hw) (wd63 hw) (by decide) (wd118 hw) (wd34 hw) (rm15 l Z a0 hw [] l3 (3 : Int32) h747 n0 (by omega) f766) e765 f768 [] [(.int (0 : Int32)), .null, (.ref vc0), (.ref vv), (.ref b747), (.ref b747), (.ref b723)] 176 7 (hb hby d13_171) rfl (by rw [hml]; rfl) rfl rfl (lenOf pd_9 rfl) rfl (by decide) fun v767 T767 Lc767 X767 hQ767 => ?_
    obtain ⟨rfl, N767q, e767⟩ := hQ767
    have N767 := Fr.app N763 N767q
    refine own_kN 179 X767 hx (hb hby d13_176) rfl (tlt (by decide : ((0 : Int32) < (3 : Int32)))).2.1 rfl ?_
    refine own_ru 182 [(.int (0 : Int32)), (.ref l3), .null, (.ref vc0), (.ref vv), (.ref b747), (.ref b747), (.ref b723)] X767 hx hby e13_179_2 rfl rfl ?_
    have f769 := (Fld.ext E747 (Fld.other W731 ((Fld.ext E723 P12).keep K728 (own_nS (by omega) nin0)) (Or.inl (own_ne (by omega)))))
    have f770 := ((((P13.ext E723).keep K728 (own_nS (by omega) nin0)).other W731 (own_ne (by omega))).ext E747)
    refine own_cI X767 hx hZ hown (wd122 hw) (wd123 hw) (mvT hZ (wd124 hw)) (wd125 hw) (wd126 hw) (wd127 hw) (wd128 hw) (wd63 hw) (by decide) (wd129 hw) (wd34 hw) (rm16 l Z a0 hw [] l3 (0 : Int32) r3 q3 [(.ref vb0), (.ref vb1), (.ref vb2), .null, .null, .null, .null, .null, .null, .null] vb0 (3 : Int32) h747 n0 (by omega) f768 f766 f769 f770 (by decide) (by decide) ⟨by decide, by decide⟩ rfl) e767 f768 [(.int (0 : Int32))] [.null, (.ref vc0), (.ref vv), (.ref b747), (.ref b747), (.ref b723)] 187 6 (hb hby d13_182) rfl (by rw [hml]; rfl) rfl rfl (lenOf pd_7 rfl) rfl (by decide) fun v771 T771 Lc771 X771 hQ771 => ?_
    obtain ⟨rfl, N771q, e771⟩ := hQ771
    have N771 := Fr.app N767 N771q
    have f772 := (Exa.ext E747 (Exa.wr W731 (Exa.keep (Exa.ext E723 P18) K728)))
    refine own_ca X771 hx hZ hown (wd143 hw) e771 (Ins.self f772) 190 rfl (hb hby d13_187) rfl fun T773 X773 e773 => ?_
    refine own_go 194 X773 hx (hb hby d13_190) (by decide) (by decide) ?_
    refine own_cRi X773 hx hZ hown rfl (wd146 hw) (wd147 hw) (by decide) (wd148 hw) (wd121 hw) (rm20 l Z a0 hw [] b747 (.ref vv) (.ref vc0) (.null) (.ref vb0) h747 n0 (by omega) A747 F748 F749 F750 F751 (by omega) rfl rfl rfl rfl) e773  [(.ref vv), (.ref vc0), .null, (.ref vb0)] [(.ref b747), (.ref b723)] 197 2 (hb hby d13_194) rfl (by rw [hml]; rfl) rfl rfl (lenOf pd_10 rfl) rfl (by decide) fun v774 T774 Lc774 X774 hQ774 => ?_
    obtain ⟨rfl, N774q, K774, G774_0, G774_1, G774_2, G774_3, G774_4⟩ := hQ774
    have N774 := Fr.app N771 N774q
    have z774 := K774.1
    have KK774 : Keep h0 T774.heap [a1] := KK747.trans K774 (allS (Or.inr (by omega)) all0)
    have lt774_0 : @LT.lt Nat _ b747 (Array.size T774.heap) := G774_0.lt
    have f775 := ((((f727.keep K728 (allS (by omega) all0)).wr W731 (by omega)).ext E747).keep K774 (allS (by omega) all0))
    have f776 := (Exa.keep (Exa.ext E747 (Exa.wr W731 G728_0)) K774)
    have f777 := ((Fld.ext E747 (Fld.other W731 G728_1 (Or.inl (own_ne (by omega))))).keep K774 (own_nS (by omega) nin0))
    have f778 := ((Fld.ext E747 (Fld.other W731 G728_2 (Or.inl (own_ne (by omega))))).keep K774 (own_nS (by omega) nin0))
    have f779 := ((Fld.ext E747 (Fld.other W731 G728_3 (Or.inl (own_ne (by omega))))).keep K774 (own_nS (by omega) nin0))
    have f780 : Ins Z T774.heap b747 "java/lang/Object" true := (Ins.of_exa G774_0 (wd159 hw))
    refine own_cI X774 hx hZ hown (wd158 hw) (wd57 hw) (mvT hZ (wd58 hw)) (wd59 hw) (wd60 hw) (wd61 hw) (wd62 hw) (wd63 hw) (by decide) (wd64 hw) (wd34 hw) (rm8z l Z a0 hw [] o_EXTRA_HIGH o_HIGH o_ZERO o_DEF kDEF o_pos cl_pos o_neg cl_neg b723 b747 (0 : Int32) T774.heap n0 (by omega) f775 A f776 f777 f778 f779 f780 (by omega)) rfl f776 [(.ref b747)] [] 202 0 (hb hby d13_197) rfl (by rw [hml]; rfl) rfl rfl (lenOf pd_11 rfl) rfl (by decide) fun v781 T781 Lc781 X781 hQ781 => ?_
    obtain ⟨ar_781, kk_781, rfl, N781q, K781, G781_0, G781_1, G781_2, G781_3, G781_4, U781_0, U781_1⟩ := hQ781
    have N781 := Fr.app N774 N781q
    have z781 := K781.1
    have KK781 : Keep h0 T781.heap [a1] := KK774.trans K781 (allS (Or.inr (by omega)) all0)
    have lt781_0 : @LT.lt Nat _ b723 (Array.size T781.heap) := G781_0.lt
    have G781_1' : fl5 Z T781.heap b723 (.int (1 : Int32)) := G781_1
    have lt781_4 : @LT.lt Nat _ ar_781 (Array.size T781.heap) := G781_4.lt
    as_aux_lemma =>
      refine own_rl 206 #[.val (.ref a1), .val (.ref l1), .val (.ref l2), .val (.ref l3), .val (.int (1 : Int32))] [] X781 hx hby e13_202_2 rfl rfl ?_
      refine own_go 105 X781 hx (hb hby d13_206) (by decide) (by decide) ?_
      refine own_ru 108 [(.ref l1), (.int (1 : Int32))] X781 hx hby e13_105_2 rfl rfl ?_
      have f782 := ((f753.keep K774 (own_nS (by omega) nin0)).keep K781 (own_nS (by omega) nin0))
      have f784 := (Exa.keep (Exa.keep f752 K774) K781)
      refine own_cI X781 hx hZ hown (wd111 hw) (wd112 hw) (mvT hZ (wd113 hw)) (wd114 hw) (wd115 hw) (wd116 hw) (wd117 hw) (wd63 hw) (by decide) (wd118 hw) (wd34 hw) (rm15 l Z a0 hw [] l1 (3 : Int32) T781.heap n0 (by omega) f782) rfl f784 [] [(.int (1 : Int32))] 113 1 (hb hby d13_108) rfl (by rw [hml]; rfl) rfl rfl (lenOf pd_9 rfl) rfl (by decide) fun v783 T783 Lc783 X783 hQ783 => ?_
      obtain ⟨rfl, N783q, e783⟩ := hQ783
      have N783 := Fr.app N781 N783q
      refine own_kN 116 X783 hx (hb hby d13_113) rfl (tlt (by decide : ((1 : Int32) < (3 : Int32)))).2.1 rfl ?_
      refine own_ru 117 [(.ref a1)] X783 hx hby e13_116_1 rfl rfl ?_
      have f785 := (((Fld.ext E747 F731).keep K774 (own_nS (by omega) nin0)).keep K781 (own_nS (by omega) nin0))
      refine own_gF X783 hx hZ hown (host := "") (Or.inl (wd101 hw)) Via.refl e783 f785 120 rfl (hb hby d13_117) rfl fun T786 X786 e786 => ?_
      refine own_nO X786 hx hZ hown (wd119 hw) (wd120 hw) (wd121 hw) e786 123 (hb hby d13_120) rfl (by decide) (by decide) fun T787 h787 b787 g787 X787 e787 E787 A787 D787 UN787 => ?_
      have ll787 : @LT.lt Nat _ b787 (Array.size h787) := A787.lt
      have KK787 : Keep h0 h787 [a1] := KK781.ext E787
      have z787 := E787.1
      have F788 : fl9 Z h787 b787 .null := D787 (Or.inr (wd151 hw)) (ty := (.object "java/math/BigInteger")) (by decide)
      have F789 : fl10 Z h787 b787 .null := D787 (Or.inr (wd153 hw)) (ty := (.object "com/example/tariff/tariff/VoltageClass")) (by decide)
      have F790 : fl11 Z h787 b787 .null := D787 (Or.inr (wd155 hw)) (ty := (.object "java/math/BigInteger")) (by decide)
      have F791 : fl12 Z h787 b787 .null := D787 (Or.inr (wd157 hw)) (ty := (.object "java/math/BigInteger")) (by decide)
      refine own_ru 127 [(.int (1 : Int32)), (.ref l1), (.ref b787), (.ref b787), (.ref b723)] X787 hx hby e13_123_3 rfl rfl ?_
      have f792 := (Exa.ext E787 f784)
      have f793 := (Fld.ext E787 f782)
      have f794 := (Fld.ext E787 ((f754.keep K774 (own_nS (by omega) nin0)).keep K781 (own_nS (by omega) nin0)))
      have f795 := (((f755.keep K774 (own_nS (by omega) nin0)).keep K781 (own_nS (by omega) nin0)).ext E787)
      refine own_cI X787 hx hZ hown (wd122 hw) (wd123 hw) (mvT hZ (wd124 hw)) (wd125 hw) (wd126 hw) (wd127 hw) (wd128 hw) (wd63 hw) (by decide) (wd129 hw) (wd34 hw) (rm16 l Z a0 hw [] l1 (1 : Int32) r1 q1 [(.ref vv), (.ref vv), (.ref vv), .null, .null, .null, .null, .null, .null, .null] vv (3 : Int32) h787 n0 (by omega) f792 f793 f794 f795 (by decide) (by decide) ⟨by decide, by decide⟩ rfl) e787 f792 [(.int (1 : Int32))] [(.ref b787), (.ref b787), (.ref b723)] 132 3 (hb hby d13_127) rfl (by rw [hml]; rfl) rfl rfl (lenOf pd_7 rfl) rfl (by decide) fun v796 T796 Lc796 X796 hQ796 => ?_
      obtain ⟨rfl, N796q, e796⟩ := hQ796
      have N796 := Fr.app N783 N796q
      have f797 := (Exa.ext E787 (Exa.keep (Exa.keep f757 K774) K781))
      refine own_ca X796 hx hZ hown (wd143 hw) e796 (Ins.self f797) 135 rfl (hb hby d13_132) rfl fun T798 X798 e798 => ?_
      refine own_ru 138 [(.int (1 : Int32)), (.ref l2), (.ref vv), (.ref b787), (.ref b787), (.ref b723)] X798 hx hby e13_135_2 rfl rfl ?_
      have f799 := (Exa.ext E787 (Exa.keep (Exa.keep f759 K774) K781))
      have f800 := (Fld.ext E787 ((f760.keep K774 (own_nS (by omega) nin0)).keep K781 (own_nS (by omega) nin0)))
      have f801 := (Fld.ext E787 ((f761.keep K774 (own_nS (by omega) nin0)).keep K781 (own_nS (by omega) nin0)))
      have f802 := (((f762.keep K774 (own_nS (by omega) nin0)).keep K781 (own_nS (by omega) nin0)).ext E787)
      refine own_cI X798 hx hZ hown (wd122 hw) (wd123 hw) (mvT hZ (wd124 hw)) (wd125 hw) (wd126 hw) (wd127 hw) (wd128 hw) (wd63 hw) (by decide) (wd129 hw) (wd34 hw) (rm16 l Z a0 hw [] l2 (1 : Int32) r2 q2 [(.ref vc0), (.ref vc1), (.ref vc2), .null, .null, .null, .null, .null, .null, .null] vc1 (3 : Int32) h787 n0 (by omega) f799 f800 f801 f802 (by decide) (by decide) ⟨by decide, by decide⟩ rfl) e798 f799 [(.int (1 : Int32))] [(.ref vv), (.ref b787), (.ref b787), (.ref b723)] 143 4 (hb hby d13_138) rfl (by rw [hml]; rfl) rfl rfl (lenOf pd_7 rfl) rfl (by decide) fun v803 T803 Lc803 X803 hQ803 => ?_
      obtain ⟨rfl, N803q, e803⟩ := hQ803
      have N803 := Fr.app N796 N803q
      have f804 := (Exa.ext E787 (Exa.keep (Exa.keep (Exa.ext E747 (Exa.wr W731 (Exa.keep (Exa.ext E723 P16) K728))) K774) K781))
      refine own_ca X803 hx hZ hown (wd144 hw) e803 (Ins.self f804) 146 rfl (hb hby d13_143) rfl fun T805 X805 e805 => ?_
      refine own_ru 148 [(.int (1 : Int32)), (.ref vc1), (.ref vv), (.ref b787), (.ref b787), (.ref b723)] X805 hx hby e13_146_1 rfl rfl ?_
      refine own_iY 155 X805 hx (hb hby d13_148) rfl ((if0 _ _).trans (feq (by decide : ¬ ((1 : Int32) = (0 : Int32)))).2) (by decide) (by decide) ?_
      refine own_ru 160 [(.int (0 : Int32)), (.ref l3), (.ref vc1), (.ref vv), (.ref b787), (.ref b787), (.ref b723)] X805 hx hby e13_155_4 rfl rfl ?_
      have f806 := (Exa.ext E787 (Exa.keep (Exa.keep f768 K774) K781))
      have f807 := (Fld.ext E787 ((f766.keep K774 (own_nS (by omega) nin0)).keep K781 (own_nS (by omega) nin0)))
      have f808 := (Fld.ext E787 ((f769.keep K774 (own_nS (by omega) nin0)).keep K781 (own_nS (by omega) nin0)))
      have f809 := (((f770.keep K774 (own_nS (by omega) nin0)).keep K781 (own_nS (by omega) nin0)).ext E787)
      refine own_cI X805 hx hZ hown (wd122 hw) (wd123 hw) (mvT hZ (wd124 hw)) (wd125 hw) (wd126 hw) (wd127 hw) (wd128 hw) (wd63 hw) (by decide) (wd129 hw) (wd34 hw) (rm16 l Z a0 hw [] l3 (0 : Int32) r3 q3 [(.ref vb0), (.ref vb1), (.ref vb2), .null, .null, .null, .null, .null, .null, .null] vb0 (3 : Int32) h787 n0 (by omega) f806 f807 f808 f809 (by decide) (by decide) ⟨by decide, by decide⟩ rfl) e805 f806 [(.int (0 : Int32))] [(.ref vc1), (.ref vv), (.ref b787), (.ref b787), (.ref b723)] 165 5 (hb hby d13_160) rfl (by rw [hml]; rfl) rfl rfl (lenOf pd_7 rfl) rfl (by decide) fun v810 T810 Lc810 X810 hQ810 => ?_
      obtain ⟨rfl, N810q, e810⟩ := hQ810
      have N810 := Fr.app N803 N810q
      have f811 := (Exa.ext E787 (Exa.keep (Exa.keep f772 K774) K781))
      refine own_ca X810 hx hZ hown (wd143 hw) e810 (Ins.self f811) 168 rfl (hb hby d13_165) rfl fun T812 X812 e812 => ?_
      refine own_ru 171 [(.ref l3), (.int (1 : Int32)), (.ref vb0), (.ref vc1), (.ref vv), (.ref b787), (.ref b787), (.ref b723)] X812 hx hby e13_168_2 rfl rfl ?_
      refine own_cI X812 hx hZ hown (wd111 hw) (wd112 hw) (mvT hZ (wd113 hw)) (wd114 hw) (wd115 hw) (wd116 hw) (wd117 hw) (wd63 hw) (by decide) (wd118 hw) (wd34 hw) (rm15 l Z a0 hw [] l3 (3 : Int32) h787 n0 (by omega) f807) e812 f806 [] [(.int (1 : Int32)), (.ref vb0), (.ref vc1), (.ref vv), (.ref b787), (.ref b787), (.ref b723)] 176 7 (hb hby d13_171) rfl (by rw [hml]; rfl) rfl rfl (lenOf pd_9 rfl) rfl (by decide) fun v813 T813 Lc813 X813 hQ813 => ?_
      obtain ⟨rfl, N813q, e813⟩ := hQ813
      have N813 := Fr.app N810 N813q
      refine own_kN 179 X813 hx (hb hby d13_176) rfl (tlt (by decide : ((1 : Int32) < (3 : Int32)))).2.1 rfl ?_
      refine own_ru 182 [(.int (1 : Int32)), (.ref l3), (.ref vb0), (.ref vc1), (.ref vv), (.ref b787), (.ref b787), (.ref b723)] X813 hx hby e13_179_2 rfl rfl ?_
      refine own_cI X813 hx hZ hown (wd122 hw) (wd123 hw) (mvT hZ (wd124 hw)) (wd125 hw) (wd126 hw) (wd127 hw) (wd128 hw) (wd63 hw) (by decide) (wd129 hw) (wd34 hw) (rm16 l Z a0 hw [] l3 (1 : Int32) r3 q3 [(.ref vb0), (.ref vb1), (.ref vb2), .null, .null, .null, .null, .null, .null, .null] vb1 (3 : Int32) h787 n0 (by omega) f806 f807 f808 f809 (by decide) (by decide) ⟨by decide, by decide⟩ rfl) e813 f806 [(.int (1 : Int32))] [(.ref vb0), (.ref vc1), (.ref vv), (.ref b787), (.ref b787), (.ref b723)] 187 6 (hb hby d13_182) rfl (by rw [hml]; rfl) rfl rfl (lenOf pd_7 rfl) rfl (by decide) fun v814 T814 Lc814 X814 hQ814 => ?_
      obtain ⟨rfl, N814q, e814⟩ := hQ814
      have N814 := Fr.app N813 N814q
      have f815 := (Exa.ext E787 (Exa.keep (Exa.keep (Exa.ext E747 (Exa.wr W731 (Exa.keep (Exa.ext E723 P19) K728))) K774) K781))
      refine own_ca X814 hx hZ hown (wd143 hw) e814 (Ins.self f815) 190 rfl (hb hby d13_187) rfl fun T816 X816 e816 => ?_
      refine own_go 194 X816 hx (hb hby d13_190) (by decide) (by decide) ?_
      refine own_cRi X816 hx hZ hown rfl (wd146 hw) (wd147 hw) (by decide) (wd148 hw) (wd121 hw) (rm20 l Z a0 hw [] b787 (.ref vv) (.ref vc1) (.ref vb0) (.ref vb1) h787 n0 (by omega) A787 F788 F789 F790 F791 (by omega) rfl rfl rfl rfl) e816  [(.ref vv), (.ref vc1), (.ref vb0), (.ref vb1)] [(.ref b787), (.ref b723)] 197 2 (hb hby d13_194) rfl (by rw [hml]; rfl) rfl rfl (lenOf pd_10 rfl) rfl (by decide) fun v817 T817 Lc817 X817 hQ817 => ?_
      obtain ⟨rfl, N817q, K817, G817_0, G817_1, G817_2, G817_3, G817_4⟩ := hQ817
      have N817 := Fr.app N814 N817q
      have z817 := K817.1
      have KK817 : Keep h0 T817.heap [a1] := KK787.trans K817 (allS (Or.inr (by omega)) all0)
      have lt817_0 : @LT.lt Nat _ b787 (Array.size T817.heap) := G817_0.lt
      have f818 := (Exa.keep (Exa.ext E787 G781_0) K817)
      have f819 := ((Fld.ext E787 G781_1').keep K817 (own_nS (by omega) nin0))
      have f820 := ((Fld.ext E787 G781_2).keep K817 (own_nS (by omega) nin0))
      have f821 := ((Fld.ext E787 G781_3).keep K817 (own_nS (by omega) nin0))
      have f822 := ((G781_4.ext E787).keep K817 (own_nS (by omega) nin0))
      have f823 : Ins Z T817.heap b787 "java/lang/Object" true := (Ins.of_exa G817_0 (wd159 hw))
      refine own_cI X817 hx hZ hown (wd158 hw) (wd57 hw) (mvT hZ (wd58 hw)) (wd59 hw) (wd60 hw) (wd61 hw) (wd62 hw) (wd63 hw) (by decide) (wd64 hw) (wd34 hw) (rm8s1 l Z a0 hw [] b723 b787 (1 : Int32) ar_781 kk_781 [(.ref b747), .null, .null, .null, .null, .null, .null, .null, .null, .null] T817.heap n0 (by omega) f818 f819 f820 f821 f822 f823 (by omega) (by omega) rfl U781_0 (by first | assumption | decide | omega)) rfl f818 [(.ref b787)] [] 202 0 (hb hby d13_197) rfl (by rw [hml]; rfl) rfl rfl (lenOf pd_11 rfl) rfl (by decide) fun v824 T824 Lc824 X824 hQ824 => ?_
      obtain ⟨rfl, N824q, K824, G824_0, G824_1, G824_2, G824_3, G824_4⟩ := hQ824
      have N824 := Fr.app N817 N824q
      have z824 := K824.1
      have KK824 : Keep h0 T824.heap [a1] := KK817.trans K824 (allS (Or.inr (by omega)) (allS (Or.inr (by omega)) all0))
      have lt824_0 : @LT.lt Nat _ b723 (Array.size T824.heap) := G824_0.lt
      have G824_1' : fl5 Z T824.heap b723 (.int (2 : Int32)) := G824_1
      have G824_4' : Arv Z T824.heap ar_781 kk_781 (.object "java/lang/Object") (10 : Int32) [(.ref b747), (.ref b787), .null, .null, .null, .null, .null, .null, .null, .null] .null := G824_4
      have lt824_4 : @LT.lt Nat _ ar_781 (Array.size T824.heap) := G824_4.lt
      refine own_rl 206 #[.val (.ref a1), .val (.ref l1), .val (.ref l2), .val (.ref l3), .val (.int (2 : Int32))] [] X824 hx hby e13_202_2 rfl rfl ?_
      refine own_go 105 X824 hx (hb hby d13_206) (by decide) (by decide) ?_
      refine own_ru 108 [(.ref l1), (.int (2 : Int32))] X824 hx hby e13_105_2 rfl rfl ?_
      have f825 := ((f793.keep K817 (own_nS (by omega) nin0)).keep K824 (own_nS (by omega) (own_nS (by omega) nin0)))
      have f827 := (Exa.keep (Exa.keep f792 K817) K824)
      refine own_cI X824 hx hZ hown (wd111 hw) (wd112 hw) (mvT hZ (wd113 hw)) (wd114 hw) (wd115 hw) (wd116 hw) (wd117 hw) (wd63 hw) (by decide) (wd118 hw) (wd34 hw) (rm15 l Z a0 hw [] l1 (3 : Int32) T824.heap n0 (by omega) f825) rfl f827 [] [(.int (2 : Int32))] 113 1 (hb hby d13_108) rfl (by rw [hml]; rfl) rfl rfl (lenOf pd_9 rfl) rfl (by decide) fun v826 T826 Lc826 X826 hQ826 => ?_
      obtain ⟨rfl, N826q, e826⟩ := hQ826
      have N826 := Fr.app N824 N826q
      refine own_kN 116 X826 hx (hb hby d13_113) rfl (tlt (by decide : ((2 : Int32) < (3 : Int32)))).2.1 rfl ?_
      refine own_ru 117 [(.ref a1)] X826 hx hby e13_116_1 rfl rfl ?_
      have f828 := (((Fld.ext E787 f785).keep K817 (own_nS (by omega) nin0)).keep K824 (own_nS (by omega) (own_nS (by omega) nin0)))
      refine own_gF X826 hx hZ hown (host := "") (Or.inl (wd101 hw)) Via.refl e826 f828 120 rfl (hb hby d13_117) rfl fun T829 X829 e829 => ?_
      refine own_nO X829 hx hZ hown (wd119 hw) (wd120 hw) (wd121 hw) e829 123 (hb hby d13_120) rfl (by decide) (by decide) fun T830 h830 b830 g830 X830 e830 E830 A830 D830 UN830 => ?_
      have ll830 : @LT.lt Nat _ b830 (Array.size h830) := A830.lt
      have KK830 : Keep h0 h830 [a1] := KK824.ext E830
      have z830 := E830.1
      have F831 : fl9 Z h830 b830 .null := D830 (Or.inr (wd151 hw)) (ty := (.object "java/math/BigInteger")) (by decide)
      have F832 : fl10 Z h830 b830 .null := D830 (Or.inr (wd153 hw)) (ty := (.object "com/example/tariff/tariff/VoltageClass")) (by decide)
      have F833 : fl11 Z h830 b830 .null := D830 (Or.inr (wd155 hw)) (ty := (.object "java/math/BigInteger")) (by decide)
      have F834 : fl12 Z h830 b830 .null := D830 (Or.inr (wd157 hw)) (ty := (.object "java/math/BigInteger")) (by decide)
      refine own_ru 127 [(.int (2 : Int32)), (.ref l1), (.ref b830), (.ref b830), (.ref b723)] X830 hx hby e13_123_3 rfl rfl ?_
      have f835 := (Exa.ext E830 f827)
      have f836 := (Fld.ext E830 f825)
      have f837 := (Fld.ext E830 ((f794.keep K817 (own_nS (by omega) nin0)).keep K824 (own_nS (by omega) (own_nS (by omega) nin0))))
      have f838 := (((f795.keep K817 (own_nS (by omega) nin0)).keep K824 (own_nS (by omega) (own_nS (by omega) nin0))).ext E830)
      refine own_cI X830 hx hZ hown (wd122 hw) (wd123 hw) (mvT hZ (wd124 hw)) (wd125 hw) (wd126 hw) (wd127 hw) (wd128 hw) (wd63 hw) (by decide) (wd129 hw) (wd34 hw) (rm16 l Z a0 hw [] l1 (2 : Int32) r1 q1 [(.ref vv), (.ref vv), (.ref vv), .null, .null, .null, .null, .null, .null, .null] vv (3 : Int32) h830 n0 (by omega) f835 f836 f837 f838 (by decide) (by decide) ⟨by decide, by decide⟩ rfl) e830 f835 [(.int (2 : Int32))] [(.ref b830), (.ref b830), (.ref b723)] 132 3 (hb hby d13_127) rfl (by rw [hml]; rfl) rfl rfl (lenOf pd_7 rfl) rfl (by decide) fun v839 T839 Lc839 X839 hQ839 => ?_
      obtain ⟨rfl, N839q, e839⟩ := hQ839
      have N839 := Fr.app N826 N839q
      have f840 := (Exa.ext E830 (Exa.keep (Exa.keep f797 K817) K824))
      refine own_ca X839 hx hZ hown (wd143 hw) e839 (Ins.self f840) 135 rfl (hb hby d13_132) rfl fun T841 X841 e841 => ?_
      refine own_ru 138 [(.int (2 : Int32)), (.ref l2), (.ref vv), (.ref b830), (.ref b830), (.ref b723)] X841 hx hby e13_135_2 rfl rfl ?_
      have f842 := (Exa.ext E830 (Exa.keep (Exa.keep f799 K817) K824))
      have f843 := (Fld.ext E830 ((f800.keep K817 (own_nS (by omega) nin0)).keep K824 (own_nS (by omega) (own_nS (by omega) nin0))))
      have f844 := (Fld.ext E830 ((f801.keep K817 (own_nS (by omega) nin0)).keep K824 (own_nS (by omega) (own_nS (by omega) nin0))))
      have f845 := (((f802.keep K817 (own_nS (by omega) nin0)).keep K824 (own_nS (by omega) (own_nS (by omega) nin0))).ext E830)
      refine own_cI X841 hx hZ hown (wd122 hw) (wd123 hw) (mvT hZ (wd124 hw)) (wd125 hw) (wd126 hw) (wd127 hw) (wd128 hw) (wd63 hw) (by decide) (wd129 hw) (wd34 hw) (rm16 l Z a0 hw [] l2 (2 : Int32) r2 q2 [(.ref vc0), (.ref vc1), (.ref vc2), .null, .null, .null, .null, .null, .null, .null] vc2 (3 : Int32) h830 n0 (by omega) f842 f843 f844 f845 (by decide) (by decide) ⟨by decide, by decide⟩ rfl) e841 f842 [(.int (2 : Int32))] [(.ref vv), (.ref b830), (.ref b830), (.ref b723)] 143 4 (hb hby d13_138) rfl (by rw [hml]; rfl) rfl rfl (lenOf pd_7 rfl) rfl (by decide) fun v846 T846 Lc846 X846 hQ846 => ?_
      obtain ⟨rfl, N846q, e846⟩ := hQ846
      have N846 := Fr.app N839 N846q
      have f847 := (Exa.ext E830 (Exa.keep (Exa.keep (Exa.ext E787 (Exa.keep (Exa.keep (Exa.ext E747 (Exa.wr W731 (Exa.keep (Exa.ext E723 P17) K728))) K774) K781)) K817) K824))
      refine own_ca X846 hx hZ hown (wd144 hw) e846 (Ins.self f847) 146 rfl (hb hby d13_143) rfl fun T848 X848 e848 => ?_
      refine own_ru 148 [(.int (2 : Int32)), (.ref vc2), (.ref vv), (.ref b830), (.ref b830), (.ref b723)] X848 hx hby e13_146_1 rfl rfl ?_
      refine own_iY 155 X848 hx (hb hby d13_148) rfl ((if0 _ _).trans (feq (by decide : ¬ ((2 : Int32) = (0 : Int32)))).2) (by decide) (by decide) ?_
      refine own_ru 158 [(.int (2 : Int32)), (.ref l3), (.ref vc2), (.ref vv), (.ref b830), (.ref b830), (.ref b723)] X848 hx hby e13_155_2 rfl rfl ?_
      as_aux_lemma =>
        refine own_ru 160 [(.int (1 : Int32)), (.ref l3), (.ref vc2), (.ref vv), (.ref b830), (.ref b830), (.ref b723)] X848 hx hby e13_158_2 rfl rfl ?_
        have f849 := (Exa.ext E830 (Exa.keep (Exa.keep f806 K817) K824))
        have f850 := (Fld.ext E830 ((f807.keep K817 (own_nS (by omega) nin0)).keep K824 (own_nS (by omega) (own_nS (by omega) nin0))))
        have f851 := (Fld.ext E830 ((f808.keep K817 (own_nS (by omega) nin0)).keep K824 (own_nS (by omega) (own_nS (by omega) nin0))))
        have f852 := (((f809.keep K817 (own_nS (by omega) nin0)).keep K824 (own_nS (by omega) (own_nS (by omega) nin0))).ext E830)
        refine own_cI X848 hx hZ hown (wd122 hw) (wd123 hw) (mvT hZ (wd124 hw)) (wd125 hw) (wd126 hw) (wd127 hw) (wd128 hw) (wd63 hw) (by decide) (wd129 hw) (wd34 hw) (rm16 l Z a0 hw [] l3 (1 : Int32) r3 q3 [(.ref vb0), (.ref vb1), (.ref vb2), .null, .null, .null, .null, .null, .null, .null] vb1 (3 : Int32) h830 n0 (by omega) f849 f850 f851 f852 (by decide) (by decide) ⟨by decide, by decide⟩ rfl) e848 f849 [(.int (1 : Int32))] [(.ref vc2), (.ref vv), (.ref b830), (.ref b830), (.ref b723)] 165 5 (hb hby d13_160) rfl (by rw [hml]; rfl) rfl rfl (lenOf pd_7 rfl) rfl (by decide) fun v853 T853 Lc853 X853 hQ853 => ?_
        obtain ⟨rfl, N853q, e853⟩ := hQ853
        have N853 := Fr.app N846 N853q
        have f854 := (Exa.ext E830 (Exa.keep (Exa.keep f815 K817) K824))
        refine own_ca X853 hx hZ hown (wd143 hw) e853 (Ins.self f854) 168 rfl (hb hby d13_165) rfl fun T855 X855 e855 => ?_
        refine own_ru 171 [(.ref l3), (.int (2 : Int32)), (.ref vb1), (.ref vc2), (.ref vv), (.ref b830), (.ref b830), (.ref b723)] X855 hx hby e13_168_2 rfl rfl ?_
        refine own_cI X855 hx hZ hown (wd111 hw) (wd112 hw) (mvT hZ (wd113 hw)) (wd114 hw) (wd115 hw) (wd116 hw) (wd117 hw) (wd63 hw) (by decide) (wd118 hw) (wd34 hw) (rm15 l Z a0 hw [] l3 (3 : Int32) h830 n0 (by omega) f850) e855 f849 [] [(.int (2 : Int32)), (.ref vb1), (.ref vc2), (.ref vv), (.ref b830), (.ref b830), (.ref b723)] 176 7 (hb hby d13_171) rfl (by rw [hml]; rfl) rfl rfl (lenOf pd_9 rfl) rfl (by decide) fun v856 T856 Lc856 X856 hQ856 => ?_
        obtain ⟨rfl, N856q, e856⟩ := hQ856
        have N856 := Fr.app N853 N856q
        refine own_kN 179 X856 hx (hb hby d13_176) rfl (tlt (by decide : ((2 : Int32) < (3 : Int32)))).2.1 rfl ?_
        refine own_ru 182 [(.int (2 : Int32)), (.ref l3), (.ref vb1), (.ref vc2), (.ref vv), (.ref b830), (.ref b830), (.ref b723)] X856 hx hby e13_179_2 rfl rfl ?_
        refine own_cI X856 hx hZ hown (wd122 hw) (wd123 hw) (mvT hZ (wd124 hw)) (wd125 hw) (wd126 hw) (wd127 hw) (wd128 hw) (wd63 hw) (by decide) (wd129 hw) (wd34 hw) (rm16 l Z a0 hw [] l3 (2 : Int32) r3 q3 [(.ref vb0), (.ref vb1), (.ref vb2), .null, .null, .null, .null, .null, .null, .null] vb2 (3 : Int32) h830 n0 (by omega) f849 f850 f851 f852 (by decide) (by decide) ⟨by decide, by decide⟩ rfl) e856 f849 [(.int (2 : Int32))] [(.ref vb1), (.ref vc2), (.ref vv), (.ref b830), (.ref b830), (.ref b723)] 187 6 (hb hby d13_182) rfl (by rw [hml]; rfl) rfl rfl (lenOf pd_7 rfl) rfl (by decide) fun v857 T857 Lc857 X857 hQ857 => ?_
        obtain ⟨rfl, N857q, e857⟩ := hQ857
        have N857 := Fr.app N856 N857q
        have f858 := (Exa.ext E830 (Exa.keep (Exa.keep (Exa.ext E787 (Exa.keep (Exa.keep (Exa.ext E747 (Exa.wr W731 (Exa.keep (Exa.ext E723 P20) K728))) K774) K781)) K817) K824))
        refine own_ca X857 hx hZ hown (wd143 hw) e857 (Ins.self f858) 190 rfl (hb hby d13_187) rfl fun T859 X859 e859 => ?_
        refine own_go 194 X859 hx (hb hby d13_190) (by decide) (by decide) ?_
        refine own_cRi X859 hx hZ hown rfl (wd146 hw) (wd147 hw) (by decide) (wd148 hw) (wd121 hw) (rm20 l Z a0 hw [] b830 (.ref vv) (.ref vc2) (.ref vb1) (.ref vb2) h830 n0 (by omega) A830 F831 F832 F833 F834 (by omega) rfl rfl rfl rfl) e859  [(.ref vv), (.ref vc2), (.ref vb1), (.ref vb2)] [(.ref b830), (.ref b723)] 197 2 (hb hby d13_194) rfl (by rw [hml]; rfl) rfl rfl (lenOf pd_10 rfl) rfl (by decide) fun v860 T860 Lc860 X860 hQ860 => ?_
        obtain ⟨rfl, N860q, K860, G860_0, G860_1, G860_2, G860_3, G860_4⟩ := hQ860
        have N860 := Fr.app N857 N860q
        have z860 := K860.1
        have KK860 : Keep h0 T860.heap [a1] := KK830.trans K860 (allS (Or.inr (by omega)) all0)
        have lt860_0 : @LT.lt Nat _ b830 (Array.size T860.heap) := G860_0.lt
        have f861 := (Exa.keep (Exa.ext E830 G824_0) K860)
        have f862 := ((Fld.ext E830 G824_1').keep K860 (own_nS (by omega) nin0))
        have f863 := ((Fld.ext E830 G824_2).keep K860 (own_nS (by omega) nin0))
        have f864 := ((Fld.ext E830 G824_3).keep K860 (own_nS (by omega) nin0))
        have f865 := ((G824_4'.ext E830).keep K860 (own_nS (by omega) nin0))
        have f866 : Ins Z T860.heap b830 "java/lang/Object" true := (Ins.of_exa G860_0 (wd159 hw))
        refine own_cI X860 hx hZ hown (wd158 hw) (wd57 hw) (mvT hZ (wd58 hw)) (wd59 hw) (wd60 hw) (wd61 hw) (wd62 hw) (wd63 hw) (by decide) (wd64 hw) (wd34 hw) (rm8s2 l Z a0 hw [] b723 b830 (2 : Int32) ar_781 kk_781 [(.ref b747), (.ref b787), .null, .null, .null, .null, .null, .null, .null, .null] T860.heap n0 (by omega) f861 f862 f863 f864 f865 f866 (by omega) (by omega) rfl U781_0 (by first | assumption | decide | omega)) rfl f861 [(.ref b830)] [] 202 0 (hb hby d13_197) rfl (by rw [hml]; rfl) rfl rfl (lenOf pd_11 rfl) rfl (by decide) fun v867 T867 Lc867 X867 hQ867 => ?_
        obtain ⟨rfl, N867q, K867, G867_0, G867_1, G867_2, G867_3, G867_4⟩ := hQ867
        have N867 := Fr.app N860 N867q
        have z867 := K867.1
        have KK867 : Keep h0 T867.heap [a1] := KK860.trans K867 (allS (Or.inr (by omega)) (allS (Or.inr (by omega)) all0))
        have lt867_0 : @LT.lt Nat _ b723 (Array.size T867.heap) := G867_0.lt
        have G867_1' : fl5 Z T867.heap b723 (.int (3 : Int32)) := G867_1
        have G867_4' : Arv Z T867.heap ar_781 kk_781 (.object "java/lang/Object") (10 : Int32) [(.ref b747), (.ref b787), (.ref b830), .null, .null, .null, .null, .null, .null, .null] .null := G867_4
        have lt867_4 : @LT.lt Nat _ ar_781 (Array.size T867.heap) := G867_4.lt
        refine own_rl 206 #[.val (.ref a1), .val (.ref l1), .val (.ref l2), .val (.ref l3), .val (.int (3 : Int32))] [] X867 hx hby e13_202_2 rfl rfl ?_
        refine own_go 105 X867 hx (hb hby d13_206) (by decide) (by decide) ?_
        refine own_ru 108 [(.ref l1), (.int (3 : Int32))] X867 hx hby e13_105_2 rfl rfl ?_
        have f868 := ((f836.keep K860 (own_nS (by omega) nin0)).keep K867 (own_nS (by omega) (own_nS (by omega) nin0)))
        have f870 := (Exa.keep (Exa.keep f835 K860) K867)
        refine own_cI X867 hx hZ hown (wd111 hw) (wd112 hw) (mvT hZ (wd113 hw)) (wd114 hw) (wd115 hw) (wd116 hw) (wd117 hw) (wd63 hw) (by decide) (wd118 hw) (wd34 hw) (rm15 l Z a0 hw [] l1 (3 : Int32) T867.heap n0 (by omega) f868) rfl f870 [] [(.int (3 : Int32))] 113 1 (hb hby d13_108) rfl (by rw [hml]; rfl) rfl rfl (lenOf pd_9 rfl) rfl (by decide) fun v869 T869 Lc869 X869 hQ869 => ?_
        obtain ⟨rfl, N869q, e869⟩ := hQ869
        have N869 := Fr.app N867 N869q
        refine own_kY 209 X869 hx (hb hby d13_113) rfl (flt (by decide : ¬ ((3 : Int32) < (3 : Int32)))).2.1 (by decide) (by decide) ?_
        have f872 := (Exa.keep (Exa.keep (Exa.ext E830 (Exa.keep (Exa.keep (Exa.ext E787 (Exa.keep (Exa.keep (Exa.ext E747 (Exa.wr W731 f729)) K774) K781)) K817) K824)) K860) K867)
        have f873 := (((Fld.ext E830 f828).keep K860 (own_nS (by omega) nin0)).keep K867 (own_nS (by omega) (own_nS (by omega) nin0)))
        have f874 := (Exa.keep G860_0 K867)
        have f875 := (G860_4.keep K867 (own_nS (by omega) (own_nS (by omega) nin0)))
        have hq871 : Q13t33 Z o_EXTRA_HIGH o_HIGH o_ZERO o_DEF kDEF o_pos cl_pos o_neg cl_neg a1 l1 l2 l3 r1 q1 r2 q2 r3 q3 vv vc0 vc1 vc2 vb0 vb1 vb2 h0 n0 none T867.heap _ := ⟨b723, ar_781, kk_781, b747, b787, b830, rfl, N869, KK867, f872, f873, G867_0, G867_2, G867_3, G867_4', f874, f875⟩
        exact own_retV X869 hx hlk hrt (hb hby d13_209) e869 hq871 (by decide) (by decide)
abbrev my21 : MethodName := (⟨"com/example/tariff/tariff/SupplyVoltages", "below", "()Ljava/math/BigInteger;"⟩ : MethodName)
theorem d21_1 : decode prog_37_method_3_code 1 = .ok (.getfield 10, 3) := by decide +kernel
theorem d21_5 : decode prog_37_method_3_code 5 = .ok (.getfield 10, 3) := by decide +kernel
theorem d21_8 : decode prog_37_method_3_code 8 = .ok (.invokeinterface 22 1, 5) := by decide +kernel
theorem d21_15 : decode prog_37_method_3_code 15 = .ok (.invokeinterface 37 2, 5) := by decide +kernel
theorem d21_20 : decode prog_37_method_3_code 20 = .ok (.checkcast 35, 3) := by decide +kernel
theorem d21_23 : decode prog_37_method_3_code 23 = .ok (.getfield 56, 3) := by decide +kernel
theorem d21_26 : decode prog_37_method_3_code 26 = .ok (.areturn, 1) := by decide +kernel
theorem e21_0_1 : own_dec prog_37_method_3_code 0 [(.aload_n 0, 1)] = true := by decide +kernel
theorem e21_4_1 : own_dec prog_37_method_3_code 4 [(.aload_n 0, 1)] = true := by decide +kernel
theorem e21_13_2 : own_dec prog_37_method_3_code 13 [(.iconst 1, 1), (.isub, 1)] = true := by decide +kernel
def Q21b1n (Z : State) (a1 : Addr) (vl : Addr) (ra : Addr) (kr : ClassId) (vs : List Value) (vo : Addr) (h0 : Heap) (n0 : Nat) (v : Option Value) (h : Heap) (L : List Loc) : Prop := v = some .null ∧ Fr n0 L ∧ h = h0
set_option maxRecDepth 65536 in
set_option maxHeartbeats 40000000 in
theorem rm21b1n (l : Launch) (Z : State) (a0 : Array Value) (hw : OW a0 Z) (ws : List Jvm.Cond) (a1 : Addr) (vl : Addr) (ra : Addr) (kr : ClassId) (vs : List Value) (vo : Addr) (h0 : Heap) (n0 : Nat) (Z0 : n0 ≤ h0.size) (P0 : ex13 Z h0 a1) (P1 : fl14 Z h0 a1 (.ref vl)) (P2 : ex4 Z h0 vl) (P3 : fl6 Z h0 vl (.int (1 : Int32))) (P4 : fl7 Z h0 vl (.ref ra)) (P5 : Arv Z h0 ra kr (.object "java/lang/Object") (10 : Int32) vs .null) (P6 : ex8 Z h0 vo) (P7 : fl12 Z h0 vo .null) (hv : vs.getD ((0 : Int32)).toNatClampNeg .null = .ref vo) :
    own_Met l my21 prog_37_method_3_code 1 (some (.object "java/math/BigInteger")) ws (own_rm 3 0 0 40) #[(.ref a1)] Z h0 (Q21b1n Z a1 vl ra kr vs vo h0 n0) 0 0 := by
  refine own_body (plainFor_of_name pn_8) (fun m => by first | (simp [entryFrame, mkF, argsToLocals, Value.category]; done) | rfl) (Ls := #[.val (.ref a1)]) fun p e s m below meth c s₁ X0 hx hby hml hZ e0 hown hnm hlk hrt => ?_
  have N0 := Fr.nil n0
  have lt_P0 : @LT.lt Nat _ a1 (Array.size h0) := P0.lt
  have lt_P2 : @LT.lt Nat _ vl (Array.size h0) := P2.lt
  have lt_P5 : @LT.lt Nat _ ra (Array.size h0) := P5.lt
  have lt_P6 : @LT.lt Nat _ vo (Array.size h0) := P6.lt
  refine own_ru 1 [(.ref a1)] X0 hx hby e21_0_1 rfl rfl ?_
  refine own_gF X0 hx hZ hown (host := "") (Or.inl (wd101 hw)) Via.refl e0 P1 4 rfl (hb hby d21_1) rfl fun T876 X876 e876 => ?_
  refine own_ru 5 [(.ref a1), (.ref vl)] X876 hx hby e21_4_1 rfl rfl ?_
  refine own_gF X876 hx hZ hown (host := "") (Or.inl (wd101 hw)) Via.refl e876 P1 8 rfl (hb hby d21_5) rfl fun T877 X877 e877 => ?_
  refine own_cI X877 hx hZ hown (wd111 hw) (wd112 hw) (mvT hZ (wd113 hw)) (wd114 hw) (wd115 hw) (wd116 hw) (wd117 hw) (wd63 hw) (by decide) (wd118 hw) (wd34 hw) (rm15 l Z a0 hw [] vl (1 : Int32) h0 n0 (by omega) P3) e877 P2 [] [(.ref vl)] 13 1 (hb hby d21_8) rfl (by rw [hml]; rfl) rfl rfl (lenOf pd_9 rfl) rfl (by decide) fun v878 T878 Lc878 X878 hQ878 => ?_
  obtain ⟨rfl, N878q, e878⟩ := hQ878
  have N878 := Fr.app N0 N878q
  refine own_ru 15 [(.int (0 : Int32)), (.ref vl)] X878 hx hby e21_13_2 rfl rfl ?_
  refine own_cI X878 hx hZ hown (wd122 hw) (wd123 hw) (mvT hZ (wd124 hw)) (wd125 hw) (wd126 hw) (wd127 hw) (wd128 hw) (wd63 hw) (by decide) (wd129 hw) (wd34 hw) (rm16 l Z a0 hw [] vl (0 : Int32) ra kr vs vo (1 : Int32) h0 n0 (by omega) P2 P3 P4 P5 (by decide) (by decide) ⟨by decide, by decide⟩ hv) e878 P2 [(.int (0 : Int32))] [] 20 0 (hb hby d21_15) rfl (by rw [hml]; rfl) rfl rfl (lenOf pd_7 rfl) rfl (by decide) fun v879 T879 Lc879 X879 hQ879 => ?_
  obtain ⟨rfl, N879q, e879⟩ := hQ879
  have N879 := Fr.app N878 N879q
  refine own_ca X879 hx hZ hown (wd119 hw) e879 (Ins.self P6) 23 rfl (hb hby d21_20) rfl fun T880 X880 e880 => ?_
  refine own_gR X880 hx hZ hown (wd166 hw) Via.refl e880 P7 26 rfl (hb hby d21_23) rfl fun T881 X881 e881 => ?_
  have hq882 : Q21b1n Z a1 vl ra kr vs vo h0 n0 (some .null) h0 _ := ⟨rfl, N879, rfl⟩
  exact own_retR X881 hx hlk (w := .null) rfl hrt rfl (hb hby d21_26) e881 hq882 (by decide) (by decide)
def Q21b1r (Z : State) (a1 : Addr) (vl : Addr) (ra : Addr) (kr : ClassId) (vs : List Value) (vo : Addr) (bo : Addr) (h0 : Heap) (n0 : Nat) (v : Option Value) (h : Heap) (L : List Loc) : Prop := v = some (.ref bo) ∧ Fr n0 L ∧ h = h0
set_option maxRecDepth 65536 in
set_option maxHeartbeats 40000000 in
theorem rm21b1r (l : Launch) (Z : State) (a0 : Array Value) (hw : OW a0 Z) (ws : List Jvm.Cond) (a1 : Addr) (vl : Addr) (ra : Addr) (kr : ClassId) (vs : List Value) (vo : Addr) (bo : Addr) (h0 : Heap) (n0 : Nat) (Z0 : n0 ≤ h0.size) (P0 : ex13 Z h0 a1) (P1 : fl14 Z h0 a1 (.ref vl)) (P2 : ex4 Z h0 vl) (P3 : fl6 Z h0 vl (.int (1 : Int32))) (P4 : fl7 Z h0 vl (.ref ra)) (P5 : Arv Z h0 ra kr (.object "java/lang/Object") (10 : Int32) vs .null) (P6 : ex8 Z h0 vo) (P7 : fl12 Z h0 vo (.ref bo)) (hv : vs.getD ((0 : Int32)).toNatClampNeg .null = .ref vo) :
    own_Met l my21 prog_37_method_3_code 1 (some (.object "java/math/BigInteger")) ws (own_rm 3 0 0 40) #[(.ref a1)] Z h0 (Q21b1r Z a1 vl ra kr vs vo bo h0 n0) 0 0 := by
  refine own_body (plainFor_of_name pn_8) (fun m => by first | (simp [entryFrame, mkF, argsToLocals, Value.category]; done) | rfl) (Ls := #[.val (.ref a1)]) fun p e s m below meth c s₁ X0 hx hby hml hZ e0 hown hnm hlk hrt => ?_
  have N0 := Fr.nil n0
  have lt_P0 : @LT.lt Nat _ a1 (Array.size h0) := P0.lt
  have lt_P2 : @LT.lt Nat _ vl (Array.size h0) := P2.lt
  have lt_P5 : @LT.lt Nat _ ra (Array.size h0) := P5.lt
  have lt_P6 : @LT.lt Nat _ vo (Array.size h0) := P6.lt
  refine own_ru 1 [(.ref a1)] X0 hx hby e21_0_1 rfl rfl ?_
  refine own_gF X0 hx hZ hown (host := "") (Or.inl (wd101 hw)) Via.refl e0 P1 4 rfl (hb hby d21_1) rfl fun T883 X883 e883 => ?_
  refine own_ru 5 [(.ref a1), (.ref vl)] X883 hx hby e21_4_1 rfl rfl ?_
  refine own_gF X883 hx hZ hown (host := "") (Or.inl (wd101 hw)) Via.refl e883 P1 8 rfl (hb hby d21_5) rfl fun T884 X884 e884 => ?_
  refine own_cI X884 hx hZ hown (wd111 hw) (wd112 hw) (mvT hZ (wd113 hw)) (wd114 hw) (wd115 hw) (wd116 hw) (wd117 hw) (wd63 hw) (by decide) (wd118 hw) (wd34 hw) (rm15 l Z a0 hw [] vl (1 : Int32) h0 n0 (by omega) P3) e884 P2 [] [(.ref vl)] 13 1 (hb hby d21_8) rfl (by rw [hml]; rfl) rfl rfl (lenOf pd_9 rfl) rfl (by decide) fun v885 T885 Lc885 X885 hQ885 => ?_
  obtain ⟨rfl, N885q, e885⟩ := hQ885
  have N885 := Fr.app N0 N885q
  refine own_ru 15 [(.int (0 : Int32)), (.ref vl)] X885 hx hby e21_13_2 rfl rfl ?_
  refine own_cI X885 hx hZ hown (wd122 hw) (wd123 hw) (mvT hZ (wd124 hw)) (wd125 hw) (wd126 hw) (wd127 hw) (wd128 hw) (wd63 hw) (by decide) (wd129 hw) (wd34 hw) (rm16 l Z a0 hw [] vl (0 : Int32) ra kr vs vo (1 : Int32) h0 n0 (by omega) P2 P3 P4 P5 (by decide) (by decide) ⟨by decide, by decide⟩ hv) e885 P2 [(.int (0 : Int32))] [] 20 0 (hb hby d21_15) rfl (by rw [hml]; rfl) rfl rfl (lenOf pd_7 rfl) rfl (by decide) fun v886 T886 Lc886 X886 hQ886 => ?_
  obtain ⟨rfl, N886q, e886⟩ := hQ886
  have N886 := Fr.app N885 N886q
  refine own_ca X886 hx hZ hown (wd119 hw) e886 (Ins.self P6) 23 rfl (hb hby d21_20) rfl fun T887 X887 e887 => ?_
  refine own_gR X887 hx hZ hown (wd166 hw) Via.refl e887 P7 26 rfl (hb hby d21_23) rfl fun T888 X888 e888 => ?_
  have hq889 : Q21b1r Z a1 vl ra kr vs vo bo h0 n0 (some (.ref bo)) h0 _ := ⟨rfl, N886, rfl⟩
  exact own_retR X888 hx hlk (w := (.ref bo)) rfl hrt rfl (hb hby d21_26) e888 hq889 (by decide) (by decide)
def Q21b2n (Z : State) (a1 : Addr) (vl : Addr) (ra : Addr) (kr : ClassId) (vs : List Value) (vo : Addr) (h0 : Heap) (n0 : Nat) (v : Option Value) (h : Heap) (L : List Loc) : Prop := v = some .null ∧ Fr n0 L ∧ h = h0
set_option maxRecDepth 65536 in
set_option maxHeartbeats 40000000 in
theorem rm21b2n (l : Launch) (Z : State) (a0 : Array Value) (hw : OW a0 Z) (ws : List Jvm.Cond) (a1 : Addr) (vl : Addr) (ra : Addr) (kr : ClassId) (vs : List Value) (vo : Addr) (h0 : Heap) (n0 : Nat) (Z0 : n0 ≤ h0.size) (P0 : ex13 Z h0 a1) (P1 : fl14 Z h0 a1 (.ref vl)) (P2 : ex4 Z h0 vl) (P3 : fl6 Z h0 vl (.int (2 : Int32))) (P4 : fl7 Z h0 vl (.ref ra)) (P5 : Arv Z h0 ra kr (.object "java/lang/Object") (10 : Int32) vs .null) (P6 : ex8 Z h0 vo) (P7 : fl12 Z h0 vo .null) (hv : vs.getD ((1 : Int32)).toNatClampNeg .null = .ref vo) :
    own_Met l my21 prog_37_method_3_code 1 (some (.object "java/math/BigInteger")) ws (own_rm 3 0 0 40) #[(.ref a1)] Z h0 (Q21b2n Z a1 vl ra kr vs vo h0 n0) 0 0 := by
  refine own_body (plainFor_of_name pn_8) (fun m => by first | (simp [entryFrame, mkF, argsToLocals, Value.category]; done) | rfl) (Ls := #[.val (.ref a1)]) fun p e s m below meth c s₁ X0 hx hby hml hZ e0 hown hnm hlk hrt => ?_
  have N0 := Fr.nil n0
  have lt_P0 : @LT.lt Nat _ a1 (Array.size h0) := P0.lt
  have lt_P2 : @LT.lt Nat _ vl (Array.size h0) := P2.lt
  have lt_P5 : @LT.lt Nat _ ra (Array.size h0) := P5.lt
  have lt_P6 : @LT.lt Nat _ vo (Array.size h0) := P6.lt
  refine own_ru 1 [(.ref a1)] X0 hx hby e21_0_1 rfl rfl ?_
  refine own_gF X0 hx hZ hown (host := "") (Or.inl (wd101 hw)) Via.refl e0 P1 4 rfl (hb hby d21_1) rfl fun T890 X890 e890 => ?_
  refine own_ru 5 [(.ref a1), (.ref vl)] X890 hx hby e21_4_1 rfl rfl ?_
  refine own_gF X890 hx hZ hown (host := "") (Or.inl (wd101 hw)) Via.refl e890 P1 8 rfl (hb hby d21_5) rfl fun T891 X891 e891 => ?_
  refine own_cI X891 hx hZ hown (wd111 hw) (wd112 hw) (mvT hZ (wd113 hw)) (wd114 hw) (wd115 hw) (wd116 hw) (wd117 hw) (wd63 hw) (by decide) (wd118 hw) (wd34 hw) (rm15 l Z a0 hw [] vl (2 : Int32) h0 n0 (by omega) P3) e891 P2 [] [(.ref vl)] 13 1 (hb hby d21_8) rfl (by rw [hml]; rfl) rfl rfl (lenOf pd_9 rfl) rfl (by decide) fun v892 T892 Lc892 X892 hQ892 => ?_
  obtain ⟨rfl, N892q, e892⟩ := hQ892
  have N892 := Fr.app N0 N892q
  refine own_ru 15 [(.int (1 : Int32)), (.ref vl)] X892 hx hby e21_13_2 rfl rfl ?_
  refine own_cI X892 hx hZ hown (wd122 hw) (wd123 hw) (mvT hZ (wd124 hw)) (wd125 hw) (wd126 hw) (wd127 hw) (wd128 hw) (wd63 hw) (by decide) (wd129 hw) (wd34 hw) (rm16 l Z a0 hw [] vl (1 : Int32) ra kr vs vo (2 : Int32) h0 n0 (by omega) P2 P3 P4 P5 (by decide) (by decide) ⟨by decide, by decide⟩ hv) e892 P2 [(.int (1 : Int32))] [] 20 0 (hb hby d21_15) rfl (by rw [hml]; rfl) rfl rfl (lenOf pd_7 rfl) rfl (by decide) fun v893 T893 Lc893 X893 hQ893 => ?_
  obtain ⟨rfl, N893q, e893⟩ := hQ893
  have N893 := Fr.app N892 N893q
  refine own_ca X893 hx hZ hown (wd119 hw) e893 (Ins.self P6) 23 rfl (hb hby d21_20) rfl fun T894 X894 e894 => ?_
  refine own_gR X894 hx hZ hown (wd166 hw) Via.refl e894 P7 26 rfl (hb hby d21_23) rfl fun T895 X895 e895 => ?_
  have hq896 : Q21b2n Z a1 vl ra kr vs vo h0 n0 (some .null) h0 _ := ⟨rfl, N893, rfl⟩
  exact own_retR X895 hx hlk (w := .null) rfl hrt rfl (hb hby d21_26) e895 hq896 (by decide) (by decide)
def Q21b2r (Z : State) (a1 : Addr) (vl : Addr) (ra : Addr) (kr : ClassId) (vs : List Value) (vo : Addr) (bo : Addr) (h0 : Heap) (n0 : Nat) (v : Option Value) (h : Heap) (L : List Loc) : Prop := v = some (.ref bo) ∧ Fr n0 L ∧ h = h0
set_option maxRecDepth 65536 in
set_option maxHeartbeats 40000000 in
theorem rm21b2r (l : Launch) (Z : State) (a0 : Array Value) (hw : OW a0 Z) (ws : List Jvm.Cond) (a1 : Addr) (vl : Addr) (ra : Addr) (kr : ClassId) (vs : List Value) (vo : Addr) (bo : Addr) (h0 : Heap) (n0 : Nat) (Z0 : n0 ≤ h0.size) (P0 : ex13 Z h0 a1) (P1 : fl14 Z h0 a1 (.ref vl)) (P2 : ex4 Z h0 vl) (P3 : fl6 Z h0 vl (.int (2 : Int32))) (P4 : fl7 Z h0 vl (.ref ra)) (P5 : Arv Z h0 ra kr (.object "java/lang/Object") (10 : Int32) vs .null) (P6 : ex8 Z h0 vo) (P7 : fl12 Z h0 vo (.ref bo)) (hv : vs.getD ((1 : Int32)).toNatClampNeg .null = .ref vo) :
    own_Met l my21 prog_37_method_3_code 1 (some (.object "java/math/BigInteger")) ws (own_rm 3 0 0 40) #[(.ref a1)] Z h0 (Q21b2r Z a1 vl ra kr vs vo bo h0 n0) 0 0 := by
  refine own_body (plainFor_of_name pn_8) (fun m => by first | (simp [entryFrame, mkF, argsToLocals, Value.category]; done) | rfl) (Ls := #[.val (.ref a1)]) fun p e s m below meth c s₁ X0 hx hby hml hZ e0 hown hnm hlk hrt => ?_
  have N0 := Fr.nil n0
  have lt_P0 : @LT.lt Nat _ a1 (Array.size h0) := P0.lt
  have lt_P2 : @LT.lt Nat _ vl (Array.size h0) := P2.lt
  have lt_P5 : @LT.lt Nat _ ra (Array.size h0) := P5.lt
  have lt_P6 : @LT.lt Nat _ vo (Array.size h0) := P6.lt
  refine own_ru 1 [(.ref a1)] X0 hx hby e21_0_1 rfl rfl ?_
  refine own_gF X0 hx hZ hown (host := "") (Or.inl (wd101 hw)) Via.refl e0 P1 4 rfl (hb hby d21_1) rfl fun T897 X897 e897 => ?_
  refine own_ru 5 [(.ref a1), (.ref vl)] X897 hx hby e21_4_1 rfl rfl ?_
  refine own_gF X897 hx hZ hown (host := "") (Or.inl (wd101 hw)) Via.refl e897 P1 8 rfl (hb hby d21_5) rfl fun T898 X898 e898 => ?_
  refine own_cI X898 hx hZ hown (wd111 hw) (wd112 hw) (mvT hZ (wd113 hw)) (wd114 hw) (wd115 hw) (wd116 hw) (wd117 hw) (wd63 hw) (by decide) (wd118 hw) (wd34 hw) (rm15 l Z a0 hw [] vl (2 : Int32) h0 n0 (by omega) P3) e898 P2 [] [(.ref vl)] 13 1 (hb hby d21_8) rfl (by rw [hml]; rfl) rfl rfl (lenOf pd_9 rfl) rfl (by decide) fun v899 T899 Lc899 X899 hQ899 => ?_
  obtain ⟨rfl, N899q, e899⟩ := hQ899
  have N899 := Fr.app N0 N899q
  refine own_ru 15 [(.int (1 : Int32)), (.ref vl)] X899 hx hby e21_13_2 rfl rfl ?_
  refine own_cI X899 hx hZ hown (wd122 hw) (wd123 hw) (mvT hZ (wd124 hw)) (wd125 hw) (wd126 hw) (wd127 hw) (wd128 hw) (wd63 hw) (by decide) (wd129 hw) (wd34 hw) (rm16 l Z a0 hw [] vl (1 : Int32) ra kr vs vo (2 : Int32) h0 n0 (by omega) P2 P3 P4 P5 (by decide) (by decide) ⟨by decide, by decide⟩ hv) e899 P2 [(.int (1 : Int32))] [] 20 0 (hb hby d21_15) rfl (by rw [hml]; rfl) rfl rfl (lenOf pd_7 rfl) rfl (by decide) fun v900 T900 Lc900 X900 hQ900 => ?_
  obtain ⟨rfl, N900q, e900⟩ := hQ900
  have N900 := Fr.app N899 N900q
  refine own_ca X900 hx hZ hown (wd119 hw) e900 (Ins.self P6) 23 rfl (hb hby d21_20) rfl fun T901 X901 e901 => ?_
  refine own_gR X901 hx hZ hown (wd166 hw) Via.refl e901 P7 26 rfl (hb hby d21_23) rfl fun T902 X902 e902 => ?_
  have hq903 : Q21b2r Z a1 vl ra kr vs vo bo h0 n0 (some (.ref bo)) h0 _ := ⟨rfl, N900, rfl⟩
  exact own_retR X902 hx hlk (w := (.ref bo)) rfl hrt rfl (hb hby d21_26) e902 hq903 (by decide) (by decide)
def Q21b3n (Z : State) (a1 : Addr) (vl : Addr) (ra : Addr) (kr : ClassId) (vs : List Value) (vo : Addr) (h0 : Heap) (n0 : Nat) (v : Option Value) (h : Heap) (L : List Loc) : Prop := v = some .null ∧ Fr n0 L ∧ h = h0
set_option maxRecDepth 65536 in
set_option maxHeartbeats 40000000 in
theorem rm21b3n (l : Launch) (Z : State) (a0 : Array Value) (hw : OW a0 Z) (ws : List Jvm.Cond) (a1 : Addr) (vl : Addr) (ra : Addr) (kr : ClassId) (vs : List Value) (vo : Addr) (h0 : Heap) (n0 : Nat) (Z0 : n0 ≤ h0.size) (P0 : ex13 Z h0 a1) (P1 : fl14 Z h0 a1 (.ref vl)) (P2 : ex4 Z h0 vl) (P3 : fl6 Z h0 vl (.int (3 : Int32))) (P4 : fl7 Z h0 vl (.ref ra)) (P5 : Arv Z h0 ra kr (.object "java/lang/Object") (10 : Int32) vs .null) (P6 : ex8 Z h0 vo) (P7 : fl12 Z h0 vo .null) (hv : vs.getD ((2 : Int32)).toNatClampNeg .null = .ref vo) :
    own_Met l my21 prog_37_method_3_code 1 (some (.object "java/math/BigInteger")) ws (own_rm 3 0 0 40) #[(.ref a1)] Z h0 (Q21b3n Z a1 vl ra kr vs vo h0 n0) 0 0 := by
  refine own_body (plainFor_of_name pn_8) (fun m => by first | (simp [entryFrame, mkF, argsToLocals, Value.category]; done) | rfl) (Ls := #[.val (.ref a1)]) fun p e s m below meth c s₁ X0 hx hby hml hZ e0 hown hnm hlk hrt => ?_
  have N0 := Fr.nil n0
  have lt_P0 : @LT.lt Nat _ a1 (Array.size h0) := P0.lt
  have lt_P2 : @LT.lt Nat _ vl (Array.size h0) := P2.lt
  have lt_P5 : @LT.lt Nat _ ra (Array.size h0) := P5.lt
  have lt_P6 : @LT.lt Nat _ vo (Array.size h0) := P6.lt
  refine own_ru 1 [(.ref a1)] X0 hx hby e21_0_1 rfl rfl ?_
  refine own_gF X0 hx hZ hown (host := "") (Or.inl (wd101 hw)) Via.refl e0 P1 4 rfl (hb hby d21_1) rfl fun T904 X904 e904 => ?_
  refine own_ru 5 [(.ref a1), (.ref vl)] X904 hx hby e21_4_1 rfl rfl ?_
  refine own_gF X904 hx hZ hown (host := "") (Or.inl (wd101 hw)) Via.refl e904 P1 8 rfl (hb hby d21_5) rfl fun T905 X905 e905 => ?_
  refine own_cI X905 hx hZ hown (wd111 hw) (wd112 hw) (mvT hZ (wd113 hw)) (wd114 hw) (wd115 hw) (wd116 hw) (wd117 hw) (wd63 hw) (by decide) (wd118 hw) (wd34 hw) (rm15 l Z a0 hw [] vl (3 : Int32) h0 n0 (by omega) P3) e905 P2 [] [(.ref vl)] 13 1 (hb hby d21_8) rfl (by rw [hml]; rfl) rfl rfl (lenOf pd_9 rfl) rfl (by decide) fun v906 T906 Lc906 X906 hQ906 => ?_
  obtain ⟨rfl, N906q, e906⟩ := hQ906
  have N906 := Fr.app N0 N906q
  refine own_ru 15 [(.int (2 : Int32)), (.ref vl)] X906 hx hby e21_13_2 rfl rfl ?_
  refine own_cI X906 hx hZ hown (wd122 hw) (wd123 hw) (mvT hZ (wd124 hw)) (wd125 hw) (wd126 hw) (wd127 hw) (wd128 hw) (wd63 hw) (by decide) (wd129 hw) (wd34 hw) (rm16 l Z a0 hw [] vl (2 : Int32) ra kr vs vo (3 : Int32) h0 n0 (by omega) P2 P3 P4 P5 (by decide) (by decide) ⟨by decide, by decide⟩ hv) e906 P2 [(.int (2 : Int32))] [] 20 0 (hb hby d21_15) rfl (by rw [hml]; rfl) rfl rfl (lenOf pd_7 rfl) rfl (by decide) fun v907 T907 Lc907 X907 hQ907 => ?_
  obtain ⟨rfl, N907q, e907⟩ := hQ907
  have N907 := Fr.app N906 N907q
  refine own_ca X907 hx hZ hown (wd119 hw) e907 (Ins.self P6) 23 rfl (hb hby d21_20) rfl fun T908 X908 e908 => ?_
  refine own_gR X908 hx hZ hown (wd166 hw) Via.refl e908 P7 26 rfl (hb hby d21_23) rfl fun T909 X909 e909 => ?_
  have hq910 : Q21b3n Z a1 vl ra kr vs vo h0 n0 (some .null) h0 _ := ⟨rfl, N907, rfl⟩
  exact own_retR X909 hx hlk (w := .null) rfl hrt rfl (hb hby d21_26) e909 hq910 (by decide) (by decide)
def Q21b3r (Z : State) (a1 : Addr) (vl : Addr) (ra : Addr) (kr : ClassId) (vs : List Value) (vo : Addr) (bo : Addr) (h0 : Heap) (n0 : Nat) (v : Option Value) (h : Heap) (L : List Loc) : Prop := v = some (.ref bo) ∧ Fr n0 L ∧ h = h0
set_option maxRecDepth 65536 in
set_option maxHeartbeats 40000000 in
theorem rm21b3r (l : Launch) (Z : State) (a0 : Array Value) (hw : OW a0 Z) (ws : List Jvm.Cond) (a1 : Addr) (vl : Addr) (ra : Addr) (kr : ClassId) (vs : List Value) (vo : Addr) (bo : Addr) (h0 : Heap) (n0 : Nat) (Z0 : n0 ≤ h0.size) (P0 : ex13 Z h0 a1) (P1 : fl14 Z h0 a1 (.ref vl)) (P2 : ex4 Z h0 vl) (P3 : fl6 Z h0 vl (.int (3 : Int32))) (P4 : fl7 Z h0 vl (.ref ra)) (P5 : Arv Z h0 ra kr (.object "java/lang/Object") (10 : Int32) vs .null) (P6 : ex8 Z h0 vo) (P7 : fl12 Z h0 vo (.ref bo)) (hv : vs.getD ((2 : Int32)).toNatClampNeg .null = .ref vo) :
    own_Met l my21 prog_37_method_3_code 1 (some (.object "java/math/BigInteger")) ws (own_rm 3 0 0 40) #[(.ref a1)] Z h0 (Q21b3r Z a1 vl ra kr vs vo bo h0 n0) 0 0 := by
  refine own_body (plainFor_of_name pn_8) (fun m => by first | (simp [entryFrame, mkF, argsToLocals, Value.category]; done) | rfl) (Ls := #[.val (.ref a1)]) fun p e s m below meth c s₁ X0 hx hby hml hZ e0 hown hnm hlk hrt => ?_
  have N0 := Fr.nil n0
  have lt_P0 : @LT.lt Nat _ a1 (Array.size h0) := P0.lt
  have lt_P2 : @LT.lt Nat _ vl (Array.size h0) := P2.lt
  have lt_P5 : @LT.lt Nat _ ra (Array.size h0) := P5.lt
  have lt_P6 : @LT.lt Nat _ vo (Array.size h0) := P6.lt
  refine own_ru 1 [(.ref a1)] X0 hx hby e21_0_1 rfl rfl ?_
  refine own_gF X0 hx hZ hown (host := "") (Or.inl (wd101 hw)) Via.refl e0 P1 4 rfl (hb hby d21_1) rfl fun T911 X911 e911 => ?_
  refine own_ru 5 [(.ref a1), (.ref vl)] X911 hx hby e21_4_1 rfl rfl ?_
  refine own_gF X911 hx hZ hown (host := "") (Or.inl (wd101 hw)) Via.refl e911 P1 8 rfl (hb hby d21_5) rfl fun T912 X912 e912 => ?_
  refine own_cI X912 hx hZ hown (wd111 hw) (wd112 hw) (mvT hZ (wd113 hw)) (wd114 hw) (wd115 hw) (wd116 hw) (wd117 hw) (wd63 hw) (by decide) (wd118 hw) (wd34 hw) (rm15 l Z a0 hw [] vl (3 : Int32) h0 n0 (by omega) P3) e912 P2 [] [(.ref vl)] 13 1 (hb hby d21_8) rfl (by rw [hml]; rfl) rfl rfl (lenOf pd_9 rfl) rfl (by decide) fun v913 T913 Lc913 X913 hQ913 => ?_
  obtain ⟨rfl, N913q, e913⟩ := hQ913
  have N913 := Fr.app N0 N913q
  refine own_ru 15 [(.int (2 : Int32)), (.ref vl)] X913 hx hby e21_13_2 rfl rfl ?_
  refine own_cI X913 hx hZ hown (wd122 hw) (wd123 hw) (mvT hZ (wd124 hw)) (wd125 hw) (wd126 hw) (wd127 hw) (wd128 hw) (wd63 hw) (by decide) (wd129 hw) (wd34 hw) (rm16 l Z a0 hw [] vl (2 : Int32) ra kr vs vo (3 : Int32) h0 n0 (by omega) P2 P3 P4 P5 (by decide) (by decide) ⟨by decide, by decide⟩ hv) e913 P2 [(.int (2 : Int32))] [] 20 0 (hb hby d21_15) rfl (by rw [hml]; rfl) rfl rfl (lenOf pd_7 rfl) rfl (by decide) fun v914 T914 Lc914 X914 hQ914 => ?_
  obtain ⟨rfl, N914q, e914⟩ := hQ914
  have N914 := Fr.app N913 N914q
  refine own_ca X914 hx hZ hown (wd119 hw) e914 (Ins.self P6) 23 rfl (hb hby d21_20) rfl fun T915 X915 e915 => ?_
  refine own_gR X915 hx hZ hown (wd166 hw) Via.refl e915 P7 26 rfl (hb hby d21_23) rfl fun T916 X916 e916 => ?_
  have hq917 : Q21b3r Z a1 vl ra kr vs vo bo h0 n0 (some (.ref bo)) h0 _ := ⟨rfl, N914, rfl⟩
  exact own_retR X916 hx hlk (w := (.ref bo)) rfl hrt rfl (hb hby d21_26) e916 hq917 (by decide) (by decide)
theorem e0_0_2 : own_dec code 0 [(.iconst 1, 1), (.iload_n 0, 1)] = true := by decide +kernel
theorem e0_4_2 : own_dec code 4 [(.iand, 1), (.iconst 3, 1)] = true := by decide +kernel
theorem e0_7_1 : own_dec code 7 [(.iadd, 1)] = true := by decide +kernel
theorem e0_8_1 : own_dec code 8 [(.istore 6, 2)] = true := by decide +kernel
theorem e0_10_5 : own_dec code 10 [(.iload_n 0, 1), (.iconst 4, 1), (.iushr, 1), (.iconst 1, 1), (.iand, 1)] = true := by decide +kernel
theorem e0_23_3 : own_dec code 23 [(.istore 7, 2), (.iload_n 1, 1), (.i2l, 1)] = true := by decide +kernel
theorem e0_27_2 : own_dec code 27 [(.lstore 8, 2), (.lload 8, 2)] = true := by decide +kernel
theorem e0_32_2 : own_dec code 32 [(.ladd, 1), (.iload_n 2, 1)] = true := by decide +kernel
theorem e0_36_3 : own_dec code 36 [(.iand, 1), (.i2l, 1), (.ladd, 1)] = true := by decide +kernel
theorem e0_39_2 : own_dec code 39 [(.lstore 10, 2), (.lload 10, 2)] = true := by decide +kernel
theorem e0_44_2 : own_dec code 44 [(.ladd, 1), (.iload_n 3, 1)] = true := by decide +kernel
theorem e0_48_3 : own_dec code 48 [(.iand, 1), (.i2l, 1), (.ladd, 1)] = true := by decide +kernel
theorem e0_51_2 : own_dec code 51 [(.lstore 12, 2), (.lload 8, 2)] = true := by decide +kernel
theorem e0_58_2 : own_dec code 58 [(.astore 14, 2), (.lload 10, 2)] = true := by decide +kernel
theorem e0_65_2 : own_dec code 65 [(.astore 15, 2), (.lload 12, 2)] = true := by decide +kernel
theorem e0_72_2 : own_dec code 72 [(.astore 16, 2), (.lload 4, 2)] = true := by decide +kernel
theorem e0_79_6 : own_dec code 79 [(.astore 17, 2), (.iload_n 0, 1), (.iconst 5, 1), (.iushr, 1), (.iconst 1, 1), (.iand, 1)] = true := by decide +kernel
theorem e0_98_6 : own_dec code 98 [(.astore 18, 2), (.iload_n 0, 1), (.bipush 6, 2), (.iushr, 1), (.iconst 1, 1), (.iand, 1)] = true := by decide +kernel
theorem e0_118_6 : own_dec code 118 [(.astore 19, 2), (.iload_n 0, 1), (.bipush 7, 2), (.iushr, 1), (.iconst 1, 1), (.iand, 1)] = true := by decide +kernel
theorem e0_138_1 : own_dec code 138 [(.astore 20, 2)] = true := by decide +kernel
theorem e0_143_1 : own_dec code 143 [(.dup, 1)] = true := by decide +kernel
theorem e0_147_1 : own_dec code 147 [(.astore 21, 2)] = true := by decide +kernel
theorem e0_152_1 : own_dec code 152 [(.dup, 1)] = true := by decide +kernel
theorem e0_156_1 : own_dec code 156 [(.astore 22, 2)] = true := by decide +kernel
theorem e0_161_1 : own_dec code 161 [(.dup, 1)] = true := by decide +kernel
theorem e0_165_3 : own_dec code 165 [(.astore 23, 2), (.aload 21, 2), (.aload 17, 2)] = true := by decide +kernel
theorem e0_176_3 : own_dec code 176 [(.pop, 1), (.aload 22, 2), (.aload 18, 2)] = true := by decide +kernel
theorem e0_186_3 : own_dec code 186 [(.pop, 1), (.iload 6, 2), (.iconst 2, 1)] = true := by decide +kernel
theorem e0_213_2 : own_dec code 213 [(.iload 6, 2), (.iconst 3, 1)] = true := by decide +kernel
theorem e0_239_1 : own_dec code 239 [(.iload 7, 2)] = true := by decide +kernel
theorem e0_244_1 : own_dec code 244 [(.iload 6, 2)] = true := by decide +kernel
theorem e0_253_3 : own_dec code 253 [(.istore 24, 2), (.iload 24, 2), (.iconst 1, 1)] = true := by decide +kernel
theorem e0_261_2 : own_dec code 261 [(.aload 23, 2), (.aload 14, 2)] = true := by decide +kernel
theorem e0_270_3 : own_dec code 270 [(.pop, 1), (.iload 24, 2), (.iconst 2, 1)] = true := by decide +kernel
theorem e0_287_2 : own_dec code 287 [(.iload 24, 2), (.iconst 3, 1)] = true := by decide +kernel
theorem e0_303_3 : own_dec code 303 [(.aconst_null, 1), (.astore 25, 2), (.iload 7, 2)] = true := by decide +kernel
theorem e0_311_2 : own_dec code 311 [(.iload 6, 2), (.iconst 1, 1)] = true := by decide +kernel
theorem e0_317_2 : own_dec code 317 [(.aload 14, 2), (.astore 25, 2)] = true := by decide +kernel
theorem e0_344_4 : own_dec code 344 [(.dup, 1), (.aload 21, 2), (.aload 22, 2), (.aload 23, 2)] = true := by decide +kernel
theorem e0_354_2 : own_dec code 354 [(.astore 26, 2), (.aload 26, 2)] = true := by decide +kernel
theorem e0_361_2 : own_dec code 361 [(.astore 27, 2), (.aload 25, 2)] = true := by decide +kernel
theorem e0_379_1 : own_dec code 379 [(.aload 27, 2)] = true := by decide +kernel
theorem e0_384_2 : own_dec code 384 [(.aload 27, 2), (.aload 25, 2)] = true := by decide +kernel
theorem e0_394_1 : own_dec code 394 [(.iconst 1, 1)] = true := by decide +kernel
theorem e0_249_6 : own_dec code 249 [(.iload 6, 2), (.iconst 1, 1), (.isub, 1), (.istore 24, 2), (.iload 24, 2), (.iconst 1, 1)] = true := by decide +kernel
theorem e0_271_2 : own_dec code 271 [(.iload 24, 2), (.iconst 2, 1)] = true := by decide +kernel
theorem e0_368_1 : own_dec code 368 [(.aload 27, 2)] = true := by decide +kernel
theorem e0_373_1 : own_dec code 373 [(.iconst 1, 1)] = true := by decide +kernel
theorem e0_193_2 : own_dec code 193 [(.aload 21, 2), (.aload 17, 2)] = true := by decide +kernel
theorem e0_202_3 : own_dec code 202 [(.pop, 1), (.aload 22, 2), (.aload 19, 2)] = true := by decide +kernel
theorem e0_212_3 : own_dec code 212 [(.pop, 1), (.iload 6, 2), (.iconst 3, 1)] = true := by decide +kernel
theorem e0_277_2 : own_dec code 277 [(.aload 23, 2), (.aload 15, 2)] = true := by decide +kernel
theorem e0_286_3 : own_dec code 286 [(.pop, 1), (.iload 24, 2), (.iconst 3, 1)] = true := by decide +kernel
theorem e0_324_2 : own_dec code 324 [(.iload 6, 2), (.iconst 2, 1)] = true := by decide +kernel
theorem e0_330_2 : own_dec code 330 [(.aload 15, 2), (.astore 25, 2)] = true := by decide +kernel
theorem e0_344_2 : own_dec code 344 [(.dup, 1), (.aload 21, 2)] = true := by decide +kernel
theorem e0_347_2 : own_dec code 347 [(.aload 22, 2), (.aload 23, 2)] = true := by decide +kernel
theorem e0_219_2 : own_dec code 219 [(.aload 21, 2), (.aload 17, 2)] = true := by decide +kernel
theorem e0_228_3 : own_dec code 228 [(.pop, 1), (.aload 22, 2), (.aload 20, 2)] = true := by decide +kernel
theorem e0_238_2 : own_dec code 238 [(.pop, 1), (.iload 7, 2)] = true := by decide +kernel
theorem e0_293_2 : own_dec code 293 [(.aload 23, 2), (.aload 16, 2)] = true := by decide +kernel
theorem e0_302_4 : own_dec code 302 [(.pop, 1), (.aconst_null, 1), (.astore 25, 2), (.iload 7, 2)] = true := by decide +kernel
theorem e0_337_2 : own_dec code 337 [(.aload 16, 2), (.astore 25, 2)] = true := by decide +kernel
theorem e0_22_1 : own_dec code 22 [(.iconst 0, 1)] = true := by decide +kernel
theorem e0_18_1 : own_dec code 18 [(.iconst 1, 1)] = true := by decide +kernel
theorem pn_9 : plainName "com/example/tariff/tariff/SupplyVoltagesBelowPinLaw" = true := by first | (simp [plainName, overriddenIn]; done) | decide +kernel
theorem pd_12 : parseMethodDescriptor "(J)Ljava/math/BigInteger;" = some ⟨[.long], some (.object "java/math/BigInteger")⟩ := by decide +kernel
theorem pd_13 : parseMethodDescriptor "(Ljava/util/List;Ljava/util/List;Ljava/util/List;)V" = some ⟨[(.object "java/util/List"), (.object "java/util/List"), (.object "java/util/List")], none⟩ := by decide +kernel
theorem pd_14 : parseMethodDescriptor "()Ljava/math/BigInteger;" = some ⟨[], some (.object "java/math/BigInteger")⟩ := by decide +kernel
def Q0 (Z : State) (o_EXTRA_HIGH : Addr) (o_HIGH : Addr) (o_ZERO : Addr) (o_DEF : Addr) (kDEF : ClassId) (o_pos : Addr) (cl_pos : Cell) (o_neg : Addr) (cl_neg : Cell) (i0 : Int32) (i1 : Int32) (i2 : Int32) (i3 : Int32) (i4 : Int64) (h0 : Heap) (n0 : Nat) (v : Option Value) (h : Heap) (L : List Loc) : Prop := v = some (.int (1 : Int32)) ∧ Fr n0 L
set_option maxRecDepth 65536 in
set_option maxHeartbeats 40000000 in
theorem rm0 (l : Launch) (Z : State) (a0 : Array Value) (hw : OW a0 Z) (ws : List Jvm.Cond) (o_EXTRA_HIGH : Addr) (o_HIGH : Addr) (o_ZERO : Addr) (o_DEF : Addr) (kDEF : ClassId) (o_pos : Addr) (cl_pos : Cell) (o_neg : Addr) (cl_neg : Cell) (i0 : Int32) (i1 : Int32) (i2 : Int32) (i3 : Int32) (i4 : Int64) (h0 : Heap) (n0 : Nat) (Z0 : n0 ≤ h0.size) (OLD : Old Z n0 h0) (A : Amb Z o_EXTRA_HIGH o_HIGH o_ZERO o_DEF kDEF o_pos cl_pos o_neg cl_neg) :
    own_Met l x code maxLocals ret ws room_1 #[(.int i0), (.int i1), (.int i2), (.int i3), (.long i4)] Z h0 (Q0 Z o_EXTRA_HIGH o_HIGH o_ZERO o_DEF kDEF o_pos cl_pos o_neg cl_neg i0 i1 i2 i3 i4 h0 n0) 48 256 := by
  refine own_body (plainFor_of_name pn_9) (fun m => by first | (simp [entryFrame, mkF, argsToLocals, Value.category, maxLocals]; done) | rfl) (Ls := #[.val (.int i0), .val (.int i1), .val (.int i2), .val (.int i3), .val (.long i4), .second, .unset, .unset, .unset, .unset, .unset, .unset, .unset, .unset, .unset, .unset, .unset, .unset, .unset, .unset, .unset, .unset, .unset, .unset, .unset, .unset, .unset, .unset]) fun p e s m below meth c s₁ X0 hx hby hml hZ e0 hown hnm hlk hrt => ?_
  have N0 := Fr.nil n0
  refine own_ru 2 [(.int i0), (.int (1 : Int32))] X0 hx hby e0_0_2 rfl rfl ?_
  refine own_st 4 [(.int (2147483647 : Int32)), (.int i0), (.int (1 : Int32))] (X0.ldcInt hx hown (mvT hZ (wd0 hw)) (g := (mkF m 2 #[.val (.int i0), .val (.int i1), .val (.int i2), .val (.int i3), .val (.long i4), .second, .unset, .unset, .unset, .unset, .unset, .unset, .unset, .unset, .unset, .unset, .unset, .unset, .unset, .unset, .unset, .unset, .unset, .unset, .unset, .unset, .unset, .unset] [(.int i0), (.int (1 : Int32))])) rfl (hb hby at_2)) ?_
  refine own_ru 6 [(.int (3 : Int32)), (.int (i0 &&& (2147483647 : Int32))), (.int (1 : Int32))] X0 hx hby e0_4_2 rfl rfl ?_
  refine own_st 7 [(.int ((i0 &&& (2147483647 : Int32)) - ((i0 &&& (2147483647 : Int32)) / (3 : Int32)) * (3 : Int32))), (.int (1 : Int32))] (fun t k => XS.irem X0.here hx rfl (hb hby at_6) rfl (by decide) k) ?_
  refine own_ru 8 [(.int ((1 : Int32) + ((i0 &&& (2147483647 : Int32)) - ((i0 &&& (2147483647 : Int32)) / (3 : Int32)) * (3 : Int32))))] X0 hx hby e0_7_1 rfl rfl ?_
  obtain ⟨v8, hv8⟩ : ∃ z : Int32, z = ((1 : Int32) + ((i0 &&& (2147483647 : Int32)) - ((i0 &&& (2147483647 : Int32)) / (3 : Int32)) * (3 : Int32))) := ⟨_, rfl⟩
  rw [← hv8]
  refine own_rl 10 #[.val (.int i0), .val (.int i1), .val (.int i2), .val (.int i3), .val (.long i4), .second, .val (.int v8), .unset, .unset, .unset, .unset, .unset, .unset, .unset, .unset, .unset, .unset, .unset, .unset, .unset, .unset, .unset, .unset, .unset, .unset, .unset, .unset, .unset] [] X0 hx hby e0_8_1 rfl rfl ?_
  have hn3 := own_n3 hv8
  refine own_ru 15 [(.int (((i0.toUInt32 >>> ((4 : Int32) &&& 31).toUInt32).toInt32) &&& (1 : Int32)))] X0 hx hby e0_10_5 rfl rfl ?_
  have J918 : ∀ (tp : Int32), (tp = (1 : Int32) ∨ tp = (0 : Int32)) → own_Fin p.tables e below (own_post (Q0 Z o_EXTRA_HIGH o_HIGH o_ZERO o_DEF kDEF o_pos cl_pos o_neg cl_neg i0 i1 i2 i3 i4 h0 n0) s 48 256) (s₁.setTop (mkF m 23 #[.val (.int i0), .val (.int i1), .val (.int i2), .val (.int i3), .val (.long i4), .second, .val (.int v8), .unset, .unset, .unset, .unset, .unset, .unset, .unset, .unset, .unset, .unset, .unset, .unset, .unset, .unset, .unset, .unset, .unset, .unset, .unset, .unset, .unset] [(.int tp)])) := by
    as_aux_lemma =>
      intro tp htp
      refine own_rl 27 #[.val (.int i0), .val (.int i1), .val (.int i2), .val (.int i3), .val (.long i4), .second, .val (.int v8), .val (.int tp), .unset, .unset, .unset, .unset, .unset, .unset, .unset, .unset, .unset, .unset, .unset, .unset, .unset, .unset, .unset, .unset, .unset, .unset, .unset, .unset] [(.long (i1.toInt64))] X0 hx hby e0_23_3 rfl rfl ?_
      obtain ⟨v27, hv27⟩ : ∃ z : Int64, z = (i1.toInt64) := ⟨_, rfl⟩
      rw [← hv27]
      refine own_rl 31 #[.val (.int i0), .val (.int i1), .val (.int i2), .val (.int i3), .val (.long i4), .second, .val (.int v8), .val (.int tp), .val (.long v27), .second, .unset, .unset, .unset, .unset, .unset, .unset, .unset, .unset, .unset, .unset, .unset, .unset, .unset, .unset, .unset, .unset, .unset, .unset] [(.long v27)] X0 hx hby e0_27_2 rfl rfl ?_
      refine own_st 32 [(.long (1 : Int64)), (.long v27)] (fun t k => XS.lconst X0.here hx rfl (hb hby at_31) k) ?_
      refine own_ru 34 [(.int i2), (.long (v27 + (1 : Int64)))] X0 hx hby e0_32_2 rfl rfl ?_
      refine own_st 36 [(.int (65535 : Int32)), (.int i2), (.long (v27 + (1 : Int64)))] (X0.ldcInt hx hown (mvT hZ (wd1 hw)) (g := (mkF m 34 #[.val (.int i0), .val (.int i1), .val (.int i2), .val (.int i3), .val (.long i4), .second, .val (.int v8), .val (.int tp), .val (.long v27), .second, .unset, .unset, .unset, .unset, .unset, .unset, .unset, .unset, .unset, .unset, .unset, .unset, .unset, .unset, .unset, .unset, .unset, .unset] [(.int i2), (.long (v27 + (1 : Int64)))])) rfl (hb hby at_34)) ?_
      refine own_ru 39 [(.long ((v27 + (1 : Int64)) + ((i2 &&& (65535 : Int32)).toInt64)))] X0 hx hby e0_36_3 rfl rfl ?_
      obtain ⟨v39, hv39⟩ : ∃ z : Int64, z = ((v27 + (1 : Int64)) + ((i2 &&& (65535 : Int32)).toInt64)) := ⟨_, rfl⟩
      rw [← hv39]
      refine own_rl 43 #[.val (.int i0), .val (.int i1), .val (.int i2), .val (.int i3), .val (.long i4), .second, .val (.int v8), .val (.int tp), .val (.long v27), .second, .val (.long v39), .second, .unset, .unset, .unset, .unset, .unset, .unset, .unset, .unset, .unset, .unset, .unset, .unset, .unset, .unset, .unset, .unset] [(.long v39)] X0 hx hby e0_39_2 rfl rfl ?_
      refine own_st 44 [(.long (1 : Int64)), (.long v39)] (fun t k => XS.lconst X0.here hx rfl (hb hby at_43) k) ?_
      refine own_ru 46 [(.int i3), (.long (v39 + (1 : Int64)))] X0 hx hby e0_44_2 rfl rfl ?_
      refine own_st 48 [(.int (65535 : Int32)), (.int i3), (.long (v39 + (1 : Int64)))] (X0.ldcInt hx hown (mvT hZ (wd1 hw)) (g := (mkF m 46 #[.val (.int i0), .val (.int i1), .val (.int i2), .val (.int i3), .val (.long i4), .second, .val (.int v8), .val (.int tp), .val (.long v27), .second, .val (.long v39), .second, .unset, .unset, .unset, .unset, .unset, .unset, .unset, .unset, .unset, .unset, .unset, .unset, .unset, .unset, .unset, .unset] [(.int i3), (.long (v39 + (1 : Int64)))])) rfl (hb hby at_46)) ?_
      refine own_ru 51 [(.long ((v39 + (1 : Int64)) + ((i3 &&& (65535 : Int32)).toInt64)))] X0 hx hby e0_48_3 rfl rfl ?_
      obtain ⟨v51, hv51⟩ : ∃ z : Int64, z = ((v39 + (1 : Int64)) + ((i3 &&& (65535 : Int32)).toInt64)) := ⟨_, rfl⟩
      rw [← hv51]
      refine own_rl 55 #[.val (.int i0), .val (.int i1), .val (.int i2), .val (.int i3), .val (.long i4), .second, .val (.int v8), .val (.int tp), .val (.long v27), .second, .val (.long v39), .second, .val (.long v51), .second, .unset, .unset, .unset, .unset, .unset, .unset, .unset, .unset, .unset, .unset, .unset, .unset, .unset, .unset] [(.long v27)] X0 hx hby e0_51_2 rfl rfl ?_
      refine own_cS X0 hx hZ hown (wd2 hw) (wd3 hw) (by decide) (wd5 hw) (wd4 hw) (rm1 l Z a0 hw [] o_EXTRA_HIGH o_HIGH o_ZERO o_DEF kDEF o_pos cl_pos o_neg cl_neg v27 h0 n0 (by omega) OLD A) e0  [(.long v27)] [] 58 0 (hb hby at_55) rfl (by rw [hml]; rfl) rfl rfl (lenOf pd_12 rfl) rfl (by decide) fun v919 T919 Lc919 X919 hQ919 => ?_
      obtain ⟨ob_919, rfl, N919q, K919, G919_0⟩ := hQ919
      have N919 := Fr.app N0 N919q
      have z919 := K919.1
      have lt919_0 : @LT.lt Nat _ ob_919 (Array.size T919.heap) := G919_0.lt
      refine own_rl 62 #[.val (.int i0), .val (.int i1), .val (.int i2), .val (.int i3), .val (.long i4), .second, .val (.int v8), .val (.int tp), .val (.long v27), .second, .val (.long v39), .second, .val (.long v51), .second, .val (.ref ob_919), .unset, .unset, .unset, .unset, .unset, .unset, .unset, .unset, .unset, .unset, .unset, .unset, .unset] [(.long v39)] X919 hx hby e0_58_2 rfl rfl ?_
      have f920 := (OLD.keep K919 all0)
      refine own_cS X919 hx hZ hown (wd2 hw) (wd3 hw) (by decide) (wd5 hw) (wd4 hw) (rm1 l Z a0 hw [] o_EXTRA_HIGH o_HIGH o_ZERO o_DEF kDEF o_pos cl_pos o_neg cl_neg v39 T919.heap n0 (by omega) f920 A) rfl  [(.long v39)] [] 65 0 (hb hby at_62) rfl (by rw [hml]; rfl) rfl rfl (lenOf pd_12 rfl) rfl (by decide) fun v921 T921 Lc921 X921 hQ921 => ?_
      obtain ⟨ob_921, rfl, N921q, K921, G921_0⟩ := hQ921
      have N921 := Fr.app N919 N921q
      have z921 := K921.1
      have lt921_0 : @LT.lt Nat _ ob_921 (Array.size T921.heap) := G921_0.lt
      refine own_rl 69 #[.val (.int i0), .val (.int i1), .val (.int i2), .val (.int i3), .val (.long i4), .second, .val (.int v8), .val (.int tp), .val (.long v27), .second, .val (.long v39), .second, .val (.long v51), .second, .val (.ref ob_919), .val (.ref ob_921), .unset, .unset, .unset, .unset, .unset, .unset, .unset, .unset, .unset, .unset, .unset, .unset] [(.long v51)] X921 hx hby e0_65_2 rfl rfl ?_
      have f922 := (f920.keep K921 all0)
      refine own_cS X921 hx hZ hown (wd2 hw) (wd3 hw) (by decide) (wd5 hw) (wd4 hw) (rm1 l Z a0 hw [] o_EXTRA_HIGH o_HIGH o_ZERO o_DEF kDEF o_pos cl_pos o_neg cl_neg v51 T921.heap n0 (by omega) f922 A) rfl  [(.long v51)] [] 72 0 (hb hby at_69) rfl (by rw [hml]; rfl) rfl rfl (lenOf pd_12 rfl) rfl (by decide) fun v923 T923 Lc923 X923 hQ923 => ?_
      obtain ⟨ob_923, rfl, N923q, K923, G923_0⟩ := hQ923
      have N923 := Fr.app N921 N923q
      have z923 := K923.1
      have lt923_0 : @LT.lt Nat _ ob_923 (Array.size T923.heap) := G923_0.lt
      refine own_rl 76 #[.val (.int i0), .val (.int i1), .val (.int i2), .val (.int i3), .val (.long i4), .second, .val (.int v8), .val (.int tp), .val (.long v27), .second, .val (.long v39), .second, .val (.long v51), .second, .val (.ref ob_919), .val (.ref ob_921), .val (.ref ob_923), .unset, .unset, .unset, .unset, .unset, .unset, .unset, .unset, .unset, .unset, .unset] [(.long i4)] X923 hx hby e0_72_2 rfl rfl ?_
      have f924 := (f922.keep K923 all0)
      refine own_cS X923 hx hZ hown (wd2 hw) (wd3 hw) (by decide) (wd5 hw) (wd4 hw) (rm1 l Z a0 hw [] o_EXTRA_HIGH o_HIGH o_ZERO o_DEF kDEF o_pos cl_pos o_neg cl_neg i4 T923.heap n0 (by omega) f924 A) rfl  [(.long i4)] [] 79 0 (hb hby at_76) rfl (by rw [hml]; rfl) rfl rfl (lenOf pd_12 rfl) rfl (by decide) fun v925 T925 Lc925 X925 hQ925 => ?_
      obtain ⟨ob_925, rfl, N925q, K925, G925_0⟩ := hQ925
      have N925 := Fr.app N923 N925q
      have z925 := K925.1
      have lt925_0 : @LT.lt Nat _ ob_925 (Array.size T925.heap) := G925_0.lt
      refine own_rl 86 #[.val (.int i0), .val (.int i1), .val (.int i2), .val (.int i3), .val (.long i4), .second, .val (.int v8), .val (.int tp), .val (.long v27), .second, .val (.long v39), .second, .val (.long v51), .second, .val (.ref ob_919), .val (.ref ob_921), .val (.ref ob_923), .val (.ref ob_925), .unset, .unset, .unset, .unset, .unset, .unset, .unset, .unset, .unset, .unset] [(.int (((i0.toUInt32 >>> ((5 : Int32) &&& 31).toUInt32).toInt32) &&& (1 : Int32)))] X925 hx hby e0_79_6 rfl rfl ?_
      have J926 : ∀ (TJ926 : State) (LJ926 : List Loc) (hJ926 : Heap) (vc0 : Addr), Stand p l e room_1 s m #[(.int i0), (.int i1), (.int i2), (.int i3), (.long i4)] below meth c TJ926 LJ926 8 32 → TJ926.heap = hJ926 → Fr n0 LJ926 → h0.size ≤ hJ926.size → Old Z n0 hJ926 → ex1 Z hJ926 ob_919 → ex1 Z hJ926 ob_921 → ex1 Z hJ926 ob_923 → ex1 Z hJ926 ob_925 → ex0 Z hJ926 vc0 → own_Fin p.tables e below (own_post (Q0 Z o_EXTRA_HIGH o_HIGH o_ZERO o_DEF kDEF o_pos cl_pos o_neg cl_neg i0 i1 i2 i3 i4 h0 n0) s 48 256) (TJ926.setTop (mkF m 98 #[.val (.int i0), .val (.int i1), .val (.int i2), .val (.int i3), .val (.long i4), .second, .val (.int v8), .val (.int tp), .val (.long v27), .second, .val (.long v39), .second, .val (.long v51), .second, .val (.ref ob_919), .val (.ref ob_921), .val (.ref ob_923), .val (.ref ob_925), .unset, .unset, .unset, .unset, .unset, .unset, .unset, .unset, .unset, .unset] [(.ref vc0)])) := by
        as_aux_lemma =>
          intro TJ926 LJ926 hJ926 vc0 XJ926 eJ926 NJ926 zJ926 FJ926_0 FJ926_1 FJ926_2 FJ926_3 FJ926_4 FJ926_5
          have ltJ926_1 : @LT.lt Nat _ ob_919 (Array.size hJ926) := FJ926_1.lt
          have ltJ926_2 : @LT.lt Nat _ ob_921 (Array.size hJ926) := FJ926_2.lt
          have ltJ926_3 : @LT.lt Nat _ ob_923 (Array.size hJ926) := FJ926_3.lt
          have ltJ926_4 : @LT.lt Nat _ ob_925 (Array.size hJ926) := FJ926_4.lt
          have ltJ926_5 : @LT.lt Nat _ vc0 (Array.size hJ926) := FJ926_5.lt
          refine own_rl 106 #[.val (.int i0), .val (.int i1), .val (.int i2), .val (.int i3), .val (.long i4), .second, .val (.int v8), .val (.int tp), .val (.long v27), .second, .val (.long v39), .second, .val (.long v51), .second, .val (.ref ob_919), .val (.ref ob_921), .val (.ref ob_923), .val (.ref ob_925), .val (.ref vc0), .unset, .unset, .unset, .unset, .unset, .unset, .unset, .unset, .unset] [(.int (((i0.toUInt32 >>> ((6 : Int32) &&& 31).toUInt32).toInt32) &&& (1 : Int32)))] XJ926 hx hby e0_98_6 rfl rfl ?_
          have J927 : ∀ (TJ927 : State) (LJ927 : List Loc) (hJ927 : Heap) (vc1 : Addr), Stand p l e room_1 s m #[(.int i0), (.int i1), (.int i2), (.int i3), (.long i4)] below meth c TJ927 LJ927 8 32 → TJ927.heap = hJ927 → Fr n0 LJ927 → h0.size ≤ hJ927.size → Old Z n0 hJ927 → ex1 Z hJ927 ob_919 → ex1 Z hJ927 ob_921 → ex1 Z hJ927 ob_923 → ex1 Z hJ927 ob_925 → ex0 Z hJ927 vc0 → ex0 Z hJ927 vc1 → own_Fin p.tables e below (own_post (Q0 Z o_EXTRA_HIGH o_HIGH o_ZERO o_DEF kDEF o_pos cl_pos o_neg cl_neg i0 i1 i2 i3 i4 h0 n0) s 48 256) (TJ927.setTop (mkF m 118 #[.val (.int i0), .val (.int i1), .val (.int i2), .val (.int i3), .val (.long i4), .second, .val (.int v8), .val (.int tp), .val (.long v27), .second, .val (.long v39), .second, .val (.long v51), .second, .val (.ref ob_919), .val (.ref ob_921), .val (.ref ob_923), .val (.ref ob_925), .val (.ref vc0), .unset, .unset, .unset, .unset, .unset, .unset, .unset, .unset, .unset] [(.ref vc1)])) := by
            as_aux_lemma =>
              intro TJ927 LJ927 hJ927 vc1 XJ927 eJ927 NJ927 zJ927 FJ927_0 FJ927_1 FJ927_2 FJ927_3 FJ927_4 FJ927_5 FJ927_6
              have ltJ927_1 : @LT.lt Nat _ ob_919 (Array.size hJ927) := FJ927_1.lt
              have ltJ927_2 : @LT.lt Nat _ ob_921 (Array.size hJ927) := FJ927_2.lt
              have ltJ927_3 : @LT.lt Nat _ ob_923 (Array.size hJ927) := FJ927_3.lt
              have ltJ927_4 : @LT.lt Nat _ ob_925 (Array.size hJ927) := FJ927_4.lt
              have ltJ927_5 : @LT.lt Nat _ vc0 (Array.size hJ927) := FJ927_5.lt
              have ltJ927_6 : @LT.lt Nat _ vc1 (Array.size hJ927) := FJ927_6.lt
              refine own_rl 126 #[.val (.int i0), .val (.int i1), .val (.int i2), .val (.int i3), .val (.long i4), .second, .val (.int v8), .val (.int tp), .val (.long v27), .second, .val (.long v39), .second, .val (.long v51), .second, .val (.ref ob_919), .val (.ref ob_921), .val (.ref ob_923), .val (.ref ob_925), .val (.ref vc0), .val (.ref vc1), .unset, .unset, .unset, .unset, .unset, .unset, .unset, .unset] [(.int (((i0.toUInt32 >>> ((7 : Int32) &&& 31).toUInt32).toInt32) &&& (1 : Int32)))] XJ927 hx hby e0_118_6 rfl rfl ?_
              have J928 : ∀ (TJ928 : State) (LJ928 : List Loc) (hJ928 : Heap) (vc2 : Addr), Stand p l e room_1 s m #[(.int i0), (.int i1), (.int i2), (.int i3), (.long i4)] below meth c TJ928 LJ928 8 32 → TJ928.heap = hJ928 → Fr n0 LJ928 → h0.size ≤ hJ928.size → Old Z n0 hJ928 → ex1 Z hJ928 ob_919 → ex1 Z hJ928 ob_921 → ex1 Z hJ928 ob_923 → ex1 Z hJ928 ob_925 → ex0 Z hJ928 vc0 → ex0 Z hJ928 vc1 → ex0 Z hJ928 vc2 → own_Fin p.tables e below (own_post (Q0 Z o_EXTRA_HIGH o_HIGH o_ZERO o_DEF kDEF o_pos cl_pos o_neg cl_neg i0 i1 i2 i3 i4 h0 n0) s 48 256) (TJ928.setTop (mkF m 138 #[.val (.int i0), .val (.int i1), .val (.int i2), .val (.int i3), .val (.long i4), .second, .val (.int v8), .val (.int tp), .val (.long v27), .second, .val (.long v39), .second, .val (.long v51), .second, .val (.ref ob_919), .val (.ref ob_921), .val (.ref ob_923), .val (.ref ob_925), .val (.ref vc0), .val (.ref vc1), .unset, .unset, .unset, .unset, .unset, .unset, .unset, .unset] [(.ref vc2)])) := by
                as_aux_lemma =>
                  intro TJ928 LJ928 hJ928 vc2 XJ928 eJ928 NJ928 zJ928 FJ928_0 FJ928_1 FJ928_2 FJ928_3 FJ928_4 FJ928_5 FJ928_6 FJ928_7
                  have ltJ928_1 : @LT.lt Nat _ ob_919 (Array.size hJ928) := FJ928_1.lt
                  have ltJ928_2 : @LT.lt Nat _ ob_921 (Array.size hJ928) := FJ928_2.lt
                  have ltJ928_3 : @LT.lt Nat _ ob_923 (Array.size hJ928) := FJ928_3.lt
                  have ltJ928_4 : @LT.lt Nat _ ob_925 (Array.size hJ928) := FJ928_4.lt
                  have ltJ928_5 : @LT.lt Nat _ vc0 (Array.size hJ928) := FJ928_5.lt
                  have ltJ928_6 : @LT.lt Nat _ vc1 (Array.size hJ928) := FJ928_6.lt
                  have ltJ928_7 : @LT.lt Nat _ vc2 (Array.size hJ928) := FJ928_7.lt
                  refine own_rl 140 #[.val (.int i0), .val (.int i1), .val (.int i2), .val (.int i3), .val (.long i4), .second, .val (.int v8), .val (.int tp), .val (.long v27), .second, .val (.long v39), .second, .val (.long v51), .second, .val (.ref ob_919), .val (.ref ob_921), .val (.ref ob_923), .val (.ref ob_925), .val (.ref vc0), .val (.ref vc1), .val (.ref vc2), .unset, .unset, .unset, .unset, .unset, .unset, .unset] [] XJ928 hx hby e0_138_1 rfl rfl ?_
                  rcases hn3 with hn | hn | hn <;> rcases htp with ht | ht <;> subst hn ht
                  · as_aux_lemma =>
                      refine own_nO XJ928 hx hZ hown (wd32 hw) (wd33 hw) (wd34 hw) eJ928 143 (hb hby at_140) rfl (by decide) (by decide) fun T929 h929 b929 g929 X929 e929 E929 A929 D929 UN929 => ?_
                      have ll929 : @LT.lt Nat _ b929 (Array.size h929) := A929.lt
                      have z929 := E929.1
                      have F930 : fl5 Z h929 b929 (.int (0 : Int32)) := D929 (Or.inl (wd52 hw)) (ty := .int) (by decide)
                      have F931 : fl7 Z h929 b929 .null := D929 (Or.inl (wd55 hw)) (ty := (.array (.object "java/lang/Object"))) (by decide)
                      have F932 : fl6 Z h929 b929 (.int (0 : Int32)) := D929 (Or.inl (wd68 hw)) (ty := .int) (by decide)
                      refine own_rl 144 #[.val (.int i0), .val (.int i1), .val (.int i2), .val (.int i3), .val (.long i4), .second, .val (.int (1 : Int32)), .val (.int (1 : Int32)), .val (.long v27), .second, .val (.long v39), .second, .val (.long v51), .second, .val (.ref ob_919), .val (.ref ob_921), .val (.ref ob_923), .val (.ref ob_925), .val (.ref vc0), .val (.ref vc1), .val (.ref vc2), .unset, .unset, .unset, .unset, .unset, .unset, .unset] [(.ref b929), (.ref b929)] X929 hx hby e0_143_1 rfl rfl ?_
                      have f933 := (FJ928_0.ext E929)
                      refine own_cN X929 hx hZ hown rfl (wd35 hw) (wd36 hw) (by decide) (wd37 hw) (wd34 hw) (rm5 l Z a0 hw [] o_EXTRA_HIGH o_HIGH o_ZERO o_DEF kDEF o_pos cl_pos o_neg cl_neg b929 h929 n0 (by omega) f933 A A929 F930 F932 F931 (by omega)) e929  [] [(.ref b929)] 147 1 (hb hby at_144) rfl (by rw [hml]; rfl) rfl rfl (lenOf pd_0 rfl) rfl (by decide) fun v934 T934 Lc934 X934 hQ934 => ?_
                      obtain ⟨rfl, N934q, K934, G934_0, G934_1, G934_2, G934_3⟩ := hQ934
                      have N934 := Fr.app NJ928 N934q
                      have z934 := K934.1
                      have lt934_0 : @LT.lt Nat _ b929 (Array.size T934.heap) := G934_0.lt
                      refine own_rl 149 #[.val (.int i0), .val (.int i1), .val (.int i2), .val (.int i3), .val (.long i4), .second, .val (.int (1 : Int32)), .val (.int (1 : Int32)), .val (.long v27), .second, .val (.long v39), .second, .val (.long v51), .second, .val (.ref ob_919), .val (.ref ob_921), .val (.ref ob_923), .val (.ref ob_925), .val (.ref vc0), .val (.ref vc1), .val (.ref vc2), .val (.ref b929), .unset, .unset, .unset, .unset, .unset, .unset] [] X934 hx hby e0_147_1 rfl rfl ?_
                      refine own_nO X934 hx hZ hown (wd32 hw) (wd33 hw) (wd34 hw) rfl 152 (hb hby at_149) rfl (by decide) (by decide) fun T935 h935 b935 g935 X935 e935 E935 A935 D935 UN935 => ?_
                      have ll935 : @LT.lt Nat _ b935 (Array.size h935) := A935.lt
                      have z935 := E935.1
                      have F936 : fl5 Z h935 b935 (.int (0 : Int32)) := D935 (Or.inl (wd52 hw)) (ty := .int) (by decide)
                      have F937 : fl7 Z h935 b935 .null := D935 (Or.inl (wd55 hw)) (ty := (.array (.object "java/lang/Object"))) (by decide)
                      have F938 : fl6 Z h935 b935 (.int (0 : Int32)) := D935 (Or.inl (wd68 hw)) (ty := .int) (by decide)
                      refine own_ru 153 [(.ref b935), (.ref b935)] X935 hx hby e0_152_1 rfl rfl ?_
                      have f939 := ((f933.keep K934 (allS (by omega) all0)).ext E935)
                      refine own_cN X935 hx hZ hown rfl (wd35 hw) (wd36 hw) (by decide) (wd37 hw) (wd34 hw) (rm5 l Z a0 hw [] o_EXTRA_HIGH o_HIGH o_ZERO o_DEF kDEF o_pos cl_pos o_neg cl_neg b935 h935 n0 (by omega) f939 A A935 F936 F938 F937 (by omega)) e935  [] [(.ref b935)] 156 1 (hb hby at_153) rfl (by rw [hml]; rfl) rfl rfl (lenOf pd_0 rfl) rfl (by decide) fun v940 T940 Lc940 X940 hQ940 => ?_
                      obtain ⟨rfl, N940q, K940, G940_0, G940_1, G940_2, G940_3⟩ := hQ940
                      have N940 := Fr.app N934 N940q
                      have z940 := K940.1
                      have lt940_0 : @LT.lt Nat _ b935 (Array.size T940.heap) := G940_0.lt
                      refine own_rl 158 #[.val (.int i0), .val (.int i1), .val (.int i2), .val (.int i3), .val (.long i4), .second, .val (.int (1 : Int32)), .val (.int (1 : Int32)), .val (.long v27), .second, .val (.long v39), .second, .val (.long v51), .second, .val (.ref ob_919), .val (.ref ob_921), .val (.ref ob_923), .val (.ref ob_925), .val (.ref vc0), .val (.ref vc1), .val (.ref vc2), .val (.ref b929), .val (.ref b935), .unset, .unset, .unset, .unset, .unset] [] X940 hx hby e0_156_1 rfl rfl ?_
                      refine own_nO X940 hx hZ hown (wd32 hw) (wd33 hw) (wd34 hw) rfl 161 (hb hby at_158) rfl (by decide) (by decide) fun T941 h941 b941 g941 X941 e941 E941 A941 D941 UN941 => ?_
                      have ll941 : @LT.lt Nat _ b941 (Array.size h941) := A941.lt
                      have z941 := E941.1
                      have F942 : fl5 Z h941 b941 (.int (0 : Int32)) := D941 (Or.inl (wd52 hw)) (ty := .int) (by decide)
                      have F943 : fl7 Z h941 b941 .null := D941 (Or.inl (wd55 hw)) (ty := (.array (.object "java/lang/Object"))) (by decide)
                      have F944 : fl6 Z h941 b941 (.int (0 : Int32)) := D941 (Or.inl (wd68 hw)) (ty := .int) (by decide)
                      refine own_ru 162 [(.ref b941), (.ref b941)] X941 hx hby e0_161_1 rfl rfl ?_
                      have f945 := ((f939.keep K940 (allS (by omega) all0)).ext E941)
                      refine own_cN X941 hx hZ hown rfl (wd35 hw) (wd36 hw) (by decide) (wd37 hw) (wd34 hw) (rm5 l Z a0 hw [] o_EXTRA_HIGH o_HIGH o_ZERO o_DEF kDEF o_pos cl_pos o_neg cl_neg b941 h941 n0 (by omega) f945 A A941 F942 F944 F943 (by omega)) e941  [] [(.ref b941)] 165 1 (hb hby at_162) rfl (by rw [hml]; rfl) rfl rfl (lenOf pd_0 rfl) rfl (by decide) fun v946 T946 Lc946 X946 hQ946 => ?_
                      obtain ⟨rfl, N946q, K946, G946_0, G946_1, G946_2, G946_3⟩ := hQ946
                      have N946 := Fr.app N940 N946q
                      have z946 := K946.1
                      have lt946_0 : @LT.lt Nat _ b941 (Array.size T946.heap) := G946_0.lt
                      refine own_rl 171 #[.val (.int i0), .val (.int i1), .val (.int i2), .val (.int i3), .val (.long i4), .second, .val (.int (1 : Int32)), .val (.int (1 : Int32)), .val (.long v27), .second, .val (.long v39), .second, .val (.long v51), .second, .val (.ref ob_919), .val (.ref ob_921), .val (.ref ob_923), .val (.ref ob_925), .val (.ref vc0), .val (.ref vc1), .val (.ref vc2), .val (.ref b929), .val (.ref b935), .val (.ref b941), .unset, .unset, .unset, .unset] [(.ref ob_925), (.ref b929)] X946 hx hby e0_165_3 rfl rfl ?_
                      have f947 := (f945.keep K946 (allS (by omega) all0))
                      have f948 := (Exa.keep (Exa.ext E941 (Exa.keep (Exa.ext E935 G934_0) K940)) K946)
                      have f949 := ((Fld.ext E941 ((Fld.ext E935 G934_1).keep K940 (own_nS (by omega) nin0))).keep K946 (own_nS (by omega) nin0))
                      have f950 := ((Fld.ext E941 ((Fld.ext E935 G934_2).keep K940 (own_nS (by omega) nin0))).keep K946 (own_nS (by omega) nin0))
                      have f951 := ((Fld.ext E941 ((Fld.ext E935 G934_3).keep K940 (own_nS (by omega) nin0))).keep K946 (own_nS (by omega) nin0))
                      have f952 := (Exa.keep (Exa.ext E941 (Exa.keep (Exa.ext E935 (Exa.keep (Exa.ext E929 FJ928_4) K934)) K940)) K946)
                      have f953 : Ins Z T946.heap ob_925 "java/lang/Object" true := (Ins.of_exa f952 (wd90 hw))
                      refine own_cI X946 hx hZ hown (wd56 hw) (wd57 hw) (mvT hZ (wd58 hw)) (wd59 hw) (wd60 hw) (wd61 hw) (wd62 hw) (wd63 hw) (by decide) (wd64 hw) (wd34 hw) (rm8z l Z a0 hw [] o_EXTRA_HIGH o_HIGH o_ZERO o_DEF kDEF o_pos cl_pos o_neg cl_neg b929 ob_925 (0 : Int32) T946.heap n0 (by omega) f947 A f948 f949 f950 f951 f953 (by omega)) rfl f948 [(.ref ob_925)] [] 176 0 (hb hby at_171) rfl (by rw [hml]; rfl) rfl rfl (lenOf pd_11 rfl) rfl (by decide) fun v954 T954 Lc954 X954 hQ954 => ?_
                      obtain ⟨ar_954, kk_954, rfl, N954q, K954, G954_0, G954_1, G954_2, G954_3, G954_4, U954_0, U954_1⟩ := hQ954
                      have N954 := Fr.app N946 N954q
                      have z954 := K954.1
                      have lt954_0 : @LT.lt Nat _ b929 (Array.size T954.heap) := G954_0.lt
                      have G954_1' : fl5 Z T954.heap b929 (.int (1 : Int32)) := G954_1
                      have lt954_4 : @LT.lt Nat _ ar_954 (Array.size T954.heap) := G954_4.lt
                      refine own_ru 181 [(.ref vc0), (.ref b935)] X954 hx hby e0_176_3 rfl rfl ?_
                      have f955 := (f947.keep K954 (allS (by omega) all0))
                      have f956 := (Exa.keep (Exa.keep (Exa.ext E941 G940_0) K946) K954)
                      have f957 := (((Fld.ext E941 G940_1).keep K946 (own_nS (by omega) nin0)).keep K954 (own_nS (by omega) nin0))
                      have f958 := (((Fld.ext E941 G940_2).keep K946 (own_nS (by omega) nin0)).keep K954 (own_nS (by omega) nin0))
                      have f959 := (((Fld.ext E941 G940_3).keep K946 (own_nS (by omega) nin0)).keep K954 (own_nS (by omega) nin0))
                      have f960 := (Exa.keep (Exa.keep (Exa.ext E941 (Exa.keep (Exa.ext E935 (Exa.keep (Exa.ext E929 FJ928_5) K934)) K940)) K946) K954)
                      have f961 : Ins Z T954.heap vc0 "java/lang/Object" true := (Ins.of_exa f960 (wd91 hw))
                      refine own_cI X954 hx hZ hown (wd56 hw) (wd57 hw) (mvT hZ (wd58 hw)) (wd59 hw) (wd60 hw) (wd61 hw) (wd62 hw) (wd63 hw) (by decide) (wd64 hw) (wd34 hw) (rm8z l Z a0 hw [] o_EXTRA_HIGH o_HIGH o_ZERO o_DEF kDEF o_pos cl_pos o_neg cl_neg b935 vc0 (0 : Int32) T954.heap n0 (by omega) f955 A f956 f957 f958 f959 f961 (by omega)) rfl f956 [(.ref vc0)] [] 186 0 (hb hby at_181) rfl (by rw [hml]; rfl) rfl rfl (lenOf pd_11 rfl) rfl (by decide) fun v962 T962 Lc962 X962 hQ962 => ?_
                      obtain ⟨ar_962, kk_962, rfl, N962q, K962, G962_0, G962_1, G962_2, G962_3, G962_4, U962_0, U962_1⟩ := hQ962
                      have N962 := Fr.app N954 N962q
                      have z962 := K962.1
                      have lt962_0 : @LT.lt Nat _ b935 (Array.size T962.heap) := G962_0.lt
                      have G962_1' : fl5 Z T962.heap b935 (.int (1 : Int32)) := G962_1
                      have lt962_4 : @LT.lt Nat _ ar_962 (Array.size T962.heap) := G962_4.lt
                      refine own_ru 190 [(.int (2 : Int32)), (.int (1 : Int32))] X962 hx hby e0_186_3 rfl rfl ?_
                      refine own_kY 213 X962 hx (hb hby at_190) rfl (tlt (by decide : ((1 : Int32) < (2 : Int32)))).1 (by decide) (by decide) ?_
                      refine own_ru 216 [(.int (3 : Int32)), (.int (1 : Int32))] X962 hx hby e0_213_2 rfl rfl ?_
                      refine own_kY 239 X962 hx (hb hby at_216) rfl (tlt (by decide : ((1 : Int32) < (3 : Int32)))).1 (by decide) (by decide) ?_
                      refine own_ru 241 [(.int (1 : Int32))] X962 hx hby e0_239_1 rfl rfl ?_
                      refine own_iN 244 X962 hx (hb hby at_241) rfl ((if0 _ _).trans (feq (by decide : ¬ ((1 : Int32) = (0 : Int32)))).1) rfl ?_
                      refine own_ru 246 [(.int (1 : Int32))] X962 hx hby e0_244_1 rfl rfl ?_
                      refine own_go 253 X962 hx (hb hby at_246) (by decide) (by decide) ?_
                      refine own_rl 258 #[.val (.int i0), .val (.int i1), .val (.int i2), .val (.int i3), .val (.long i4), .second, .val (.int (1 : Int32)), .val (.int (1 : Int32)), .val (.long v27), .second, .val (.long v39), .second, .val (.long v51), .second, .val (.ref ob_919), .val (.ref ob_921), .val (.ref ob_923), .val (.ref ob_925), .val (.ref vc0), .val (.ref vc1), .val (.ref vc2), .val (.ref b929), .val (.ref b935), .val (.ref b941), .val (.int (1 : Int32)), .unset, .unset, .unset] [(.int (1 : Int32)), (.int (1 : Int32))] X962 hx hby e0_253_3 rfl rfl ?_
                      refine own_kN 261 X962 hx (hb hby at_258) rfl (flt (by decide : ¬ ((1 : Int32) < (1 : Int32)))).1 rfl ?_
                      refine own_ru 265 [(.ref ob_919), (.ref b941)] X962 hx hby e0_261_2 rfl rfl ?_
                      have f963 := (f955.keep K962 (allS (by omega) all0))
                      have f964 := (Exa.keep (Exa.keep G946_0 K954) K962)
                      have f965 := ((G946_1.keep K954 (own_nS (by omega) nin0)).keep K962 (own_nS (by omega) nin0))
                      have f966 := ((G946_2.keep K954 (own_nS (by omega) nin0)).keep K962 (own_nS (by omega) nin0))
                      have f967 := ((G946_3.keep K954 (own_nS (by omega) nin0)).keep K962 (own_nS (by omega) nin0))
                      have f968 := (Exa.keep (Exa.keep (Exa.keep (Exa.ext E941 (Exa.keep (Exa.ext E935 (Exa.keep (Exa.ext E929 FJ928_1) K934)) K940)) K946) K954) K962)
                      have f969 : Ins Z T962.heap ob_919 "java/lang/Object" true := (Ins.of_exa f968 (wd90 hw))
                      refine own_cI X962 hx hZ hown (wd56 hw) (wd57 hw) (mvT hZ (wd58 hw)) (wd59 hw) (wd60 hw) (wd61 hw) (wd62 hw) (wd63 hw) (by decide) (wd64 hw) (wd34 hw) (rm8z l Z a0 hw [] o_EXTRA_HIGH o_HIGH o_ZERO o_DEF kDEF o_pos cl_pos o_neg cl_neg b941 ob_919 (0 : Int32) T962.heap n0 (by omega) f963 A f964 f965 f966 f967 f969 (by omega)) rfl f964 [(.ref ob_919)] [] 270 0 (hb hby at_265) rfl (by rw [hml]; rfl) rfl rfl (lenOf pd_11 rfl) rfl (by decide) fun v970 T970 Lc970 X970 hQ970 => ?_
                      obtain ⟨ar_970, kk_970, rfl, N970q, K970, G970_0, G970_1, G970_2, G970_3, G970_4, U970_0, U970_1⟩ := hQ970
                      have N970 := Fr.app N962 N970q
                      have z970 := K970.1
                      have lt970_0 : @LT.lt Nat _ b941 (Array.size T970.heap) := G970_0.lt
                      have G970_1' : fl5 Z T970.heap b941 (.int (1 : Int32)) := G970_1
                      have lt970_4 : @LT.lt Nat _ ar_970 (Array.size T970.heap) := G970_4.lt
                      refine own_ru 274 [(.int (2 : Int32)), (.int (1 : Int32))] X970 hx hby e0_270_3 rfl rfl ?_
                      refine own_kY 287 X970 hx (hb hby at_274) rfl (tlt (by decide : ((1 : Int32) < (2 : Int32)))).1 (by decide) (by decide) ?_
                      refine own_ru 290 [(.int (3 : Int32)), (.int (1 : Int32))] X970 hx hby e0_287_2 rfl rfl ?_
                      refine own_kY 303 X970 hx (hb hby at_290) rfl (tlt (by decide : ((1 : Int32) < (3 : Int32)))).1 (by decide) (by decide) ?_
                      refine own_rl 308 #[.val (.int i0), .val (.int i1), .val (.int i2), .val (.int i3), .val (.long i4), .second, .val (.int (1 : Int32)), .val (.int (1 : Int32)), .val (.long v27), .second, .val (.long v39), .second, .val (.long v51), .second, .val (.ref ob_919), .val (.ref ob_921), .val (.ref ob_923), .val (.ref ob_925), .val (.ref vc0), .val (.ref vc1), .val (.ref vc2), .val (.ref b929), .val (.ref b935), .val (.ref b941), .val (.int (1 : Int32)), .val .null, .unset, .unset] [(.int (1 : Int32))] X970 hx hby e0_303_3 rfl rfl ?_
                      refine own_iN 311 X970 hx (hb hby at_308) rfl ((if0 _ _).trans (feq (by decide : ¬ ((1 : Int32) = (0 : Int32)))).1) rfl ?_
                      refine own_ru 314 [(.int (1 : Int32)), (.int (1 : Int32))] X970 hx hby e0_311_2 rfl rfl ?_
                      refine own_kN 317 X970 hx (hb hby at_314) rfl (teq (by decide : ((1 : Int32) = (1 : Int32)))).2 rfl ?_
                      refine own_rl 321 #[.val (.int i0), .val (.int i1), .val (.int i2), .val (.int i3), .val (.long i4), .second, .val (.int (1 : Int32)), .val (.int (1 : Int32)), .val (.long v27), .second, .val (.long v39), .second, .val (.long v51), .second, .val (.ref ob_919), .val (.ref ob_921), .val (.ref ob_923), .val (.ref ob_925), .val (.ref vc0), .val (.ref vc1), .val (.ref vc2), .val (.ref b929), .val (.ref b935), .val (.ref b941), .val (.int (1 : Int32)), .val (.ref ob_919), .unset, .unset] [] X970 hx hby e0_317_2 rfl rfl ?_
                      refine own_go 341 X970 hx (hb hby at_321) (by decide) (by decide) ?_
                      refine own_nO X970 hx hZ hown (wd92 hw) (wd93 hw) (wd94 hw) rfl 344 (hb hby at_341) rfl (by decide) (by decide) fun T971 h971 b971 g971 X971 e971 E971 A971 D971 UN971 => ?_
                      have ll971 : @LT.lt Nat _ b971 (Array.size h971) := A971.lt
                      have z971 := E971.1
                      have F972 : fl14 Z h971 b971 .null := D971 (Or.inr (wd102 hw)) (ty := (.object "java/util/List")) (by decide)
                      refine own_ru 351 [(.ref b941), (.ref b935), (.ref b929), (.ref b971), (.ref b971)] X971 hx hby e0_344_4 rfl rfl ?_
                      have f973 := ((f963.keep K970 (allS (by omega) all0)).ext E971)
                      have f974 := (Exa.ext E971 (Exa.keep (Exa.keep G954_0 K962) K970))
                      have f975 := (Fld.ext E971 ((G954_2.keep K962 (own_nS (by omega) nin0)).keep K970 (own_nS (by omega) nin0)))
                      have f976 := (Fld.ext E971 ((G954_3.keep K962 (own_nS (by omega) nin0)).keep K970 (own_nS (by omega) nin0)))
                      have f977 := (((G954_4.keep K962 (own_nS (by omega) nin0)).keep K970 (own_nS (by omega) nin0)).ext E971)
                      have f978 := (Exa.ext E971 (Exa.keep G962_0 K970))
                      have f979 := (Fld.ext E971 (G962_2.keep K970 (own_nS (by omega) nin0)))
                      have f980 := (Fld.ext E971 (G962_3.keep K970 (own_nS (by omega) nin0)))
                      have f981 := ((G962_4.keep K970 (own_nS (by omega) nin0)).ext E971)
                      have f982 := (Exa.ext E971 G970_0)
                      have f983 := (Fld.ext E971 G970_2)
                      have f984 := (Fld.ext E971 G970_3)
                      have f985 := (G970_4.ext E971)
                      have f986 := (Exa.ext E971 (Exa.keep (Exa.keep (Exa.keep f952 K954) K962) K970))
                      have f987 := (Exa.ext E971 (Exa.keep (Exa.keep f960 K962) K970))
                      have f988 := (Exa.ext E971 (Exa.keep f968 K970))
                      refine own_cN X971 hx hZ hown rfl (wd95 hw) (wd96 hw) (by decide) (wd97 hw) (wd94 hw) (rm13t11 l Z a0 hw [] o_EXTRA_HIGH o_HIGH o_ZERO o_DEF kDEF o_pos cl_pos o_neg cl_neg b971 b929 b935 b941 ar_954 kk_954 ar_962 kk_962 ar_970 kk_970 ob_925 vc0 ob_919 h971 n0 (by omega) f973 A A971 F972 f974 f975 f976 f977 f978 f979 f980 f981 f982 f983 f984 f985 f986 f987 f988 (by omega) (by first | assumption | decide | omega) (by first | assumption | decide | omega) (by first | assumption | decide | omega) (by first | assumption | decide | omega) (by first | assumption | decide | omega) (by first | assumption | decide | omega)) e971  [(.ref b929), (.ref b935), (.ref b941)] [(.ref b971)] 354 1 (hb hby at_351) rfl (by rw [hml]; rfl) rfl rfl (lenOf pd_13 rfl) rfl (by decide) fun v989 T989 Lc989 X989 hQ989 => ?_
                      obtain ⟨vl_989, ra_989, kr_989, vo0_989, rfl, N989q, K989, G989_0, G989_1, G989_2, G989_3, G989_4, G989_5, G989_6, G989_7⟩ := hQ989
                      have N989 := Fr.app N970 N989q
                      have z989 := K989.1
                      have lt989_0 : @LT.lt Nat _ b971 (Array.size T989.heap) := G989_0.lt
                      have lt989_2 : @LT.lt Nat _ vl_989 (Array.size T989.heap) := G989_2.lt
                      have lt989_5 : @LT.lt Nat _ ra_989 (Array.size T989.heap) := G989_5.lt
                      have lt989_6 : @LT.lt Nat _ vo0_989 (Array.size T989.heap) := G989_6.lt
                      as_aux_lemma =>
                        refine own_rl 358 #[.val (.int i0), .val (.int i1), .val (.int i2), .val (.int i3), .val (.long i4), .second, .val (.int (1 : Int32)), .val (.int (1 : Int32)), .val (.long v27), .second, .val (.long v39), .second, .val (.long v51), .second, .val (.ref ob_919), .val (.ref ob_921), .val (.ref ob_923), .val (.ref ob_925), .val (.ref vc0), .val (.ref vc1), .val (.ref vc2), .val (.ref b929), .val (.ref b935), .val (.ref b941), .val (.int (1 : Int32)), .val (.ref ob_919), .val (.ref b971), .unset] [(.ref b971)] X989 hx hby e0_354_2 rfl rfl ?_
                        refine own_cV X989 hx hZ hown (wd160 hw) (wd161 hw) (notFace_of_selects (args := #[]) (mvT hZ (wd163 hw))) (wd163 hw) (wd162 hw) (by decide) (wd164 hw) (wd94 hw) (rm21b1r l Z a0 hw [] b971 vl_989 ra_989 kr_989 [(.ref vo0_989), .null, .null, .null, .null, .null, .null, .null, .null, .null] vo0_989 ob_919 T989.heap n0 (by omega) G989_0 G989_1 G989_2 G989_3 G989_4 G989_5 G989_6 G989_7 rfl) rfl G989_0 [] [] 361 0 (hb hby at_358) rfl (by rw [hml]; rfl) rfl rfl (lenOf pd_14 rfl) rfl (by decide) fun v990 T990 Lc990 X990 hQ990 => ?_
                        obtain ⟨rfl, N990q, e990⟩ := hQ990
                        have N990 := Fr.app N989 N990q
                        refine own_rl 365 #[.val (.int i0), .val (.int i1), .val (.int i2), .val (.int i3), .val (.long i4), .second, .val (.int (1 : Int32)), .val (.int (1 : Int32)), .val (.long v27), .second, .val (.long v39), .second, .val (.long v51), .second, .val (.ref ob_919), .val (.ref ob_921), .val (.ref ob_923), .val (.ref ob_925), .val (.ref vc0), .val (.ref vc1), .val (.ref vc2), .val (.ref b929), .val (.ref b935), .val (.ref b941), .val (.int (1 : Int32)), .val (.ref ob_919), .val (.ref b971), .val (.ref ob_919)] [(.ref ob_919)] X990 hx hby e0_361_2 rfl rfl ?_
                        refine own_st 379 [] (fun t k => XS.ifnonnullYes X990.here hx rfl (pc0 := 365) (pc' := 379) rfl (hb hby at_365) rfl (by decide) (by decide) k) ?_
                        refine own_ru 381 [(.ref ob_919)] X990 hx hby e0_379_1 rfl rfl ?_
                        refine own_st 384 [] (fun t k => XS.ifnullNo X990.here hx rfl (hb hby at_381) rfl k) ?_
                        refine own_ru 388 [(.ref ob_919), (.ref ob_919)] X990 hx hby e0_384_2 rfl rfl ?_
                        have f992 := (Exa.keep f988 K989)
                        refine own_cV X990 hx hZ hown (wd169 hw) (wd170 hw) (notFace_of_selects (args := #[]) (mvT hZ (wd172 hw))) (wd172 hw) (wd171 hw) (by decide) (wd173 hw) (wd4 hw) (rm22 l Z a0 hw [] ob_919 T989.heap n0 (by omega) ) e990 f992 [(.ref ob_919)] [] 391 0 (hb hby at_388) rfl (by rw [hml]; rfl) rfl rfl (lenOf pd_11 rfl) rfl (by decide) fun v991 T991 Lc991 X991 hQ991 => ?_
                        obtain ⟨rfl, N991q, e991⟩ := hQ991
                        have N991 := Fr.app N990 N991q
                        refine own_iN 394 X991 hx (hb hby at_391) rfl ((if0 _ _).trans (feq (by decide : ¬ ((1 : Int32) = (0 : Int32)))).1) rfl ?_
                        refine own_ru 395 [(.int (1 : Int32))] X991 hx hby e0_394_1 rfl rfl ?_
                        refine own_go 399 X991 hx (hb hby at_395) (by decide) (by decide) ?_
                        have hq993 : Q0 Z o_EXTRA_HIGH o_HIGH o_ZERO o_DEF kDEF o_pos cl_pos o_neg cl_neg i0 i1 i2 i3 i4 h0 n0 (some (.int (nar .boolean (1 : Int32)))) T989.heap _ := ⟨rfl, N991⟩
                        exact own_retN X991 hx hlk (t := .boolean) hrt (by simp) (hb hby at_399) e991 hq993 (by decide) (by decide)
                  · as_aux_lemma =>
                      refine own_nO XJ928 hx hZ hown (wd32 hw) (wd33 hw) (wd34 hw) eJ928 143 (hb hby at_140) rfl (by decide) (by decide) fun T994 h994 b994 g994 X994 e994 E994 A994 D994 UN994 => ?_
                      have ll994 : @LT.lt Nat _ b994 (Array.size h994) := A994.lt
                      have z994 := E994.1
                      have F995 : fl5 Z h994 b994 (.int (0 : Int32)) := D994 (Or.inl (wd52 hw)) (ty := .int) (by decide)
                      have F996 : fl7 Z h994 b994 .null := D994 (Or.inl (wd55 hw)) (ty := (.array (.object "java/lang/Object"))) (by decide)
                      have F997 : fl6 Z h994 b994 (.int (0 : Int32)) := D994 (Or.inl (wd68 hw)) (ty := .int) (by decide)
                      refine own_rl 144 #[.val (.int i0), .val (.int i1), .val (.int i2), .val (.int i3), .val (.long i4), .second, .val (.int (1 : Int32)), .val (.int (0 : Int32)), .val (.long v27), .second, .val (.long v39), .second, .val (.long v51), .second, .val (.ref ob_919), .val (.ref ob_921), .val (.ref ob_923), .val (.ref ob_925), .val (.ref vc0), .val (.ref vc1), .val (.ref vc2), .unset, .unset, .unset, .unset, .unset, .unset, .unset] [(.ref b994), (.ref b994)] X994 hx hby e0_143_1 rfl rfl ?_
                      have f998 := (FJ928_0.ext E994)
                      refine own_cN X994 hx hZ hown rfl (wd35 hw) (wd36 hw) (by decide) (wd37 hw) (wd34 hw) (rm5 l Z a0 hw [] o_EXTRA_HIGH o_HIGH o_ZERO o_DEF kDEF o_pos cl_pos o_neg cl_neg b994 h994 n0 (by omega) f998 A A994 F995 F997 F996 (by omega)) e994  [] [(.ref b994)] 147 1 (hb hby at_144) rfl (by rw [hml]; rfl) rfl rfl (lenOf pd_0 rfl) rfl (by decide) fun v999 T999 Lc999 X999 hQ999 => ?_
                      obtain ⟨rfl, N999q, K999, G999_0, G999_1, G999_2, G999_3⟩ := hQ999
                      have N999 := Fr.app NJ928 N999q
                      have z999 := K999.1
                      have lt999_0 : @LT.lt Nat _ b994 (Array.size T999.heap) := G999_0.lt
                      refine own_rl 149 #[.val (.int i0), .val (.int i1), .val (.int i2), .val (.int i3), .val (.long i4), .second, .val (.int (1 : Int32)), .val (.int (0 : Int32)), .val (.long v27), .second, .val (.long v39), .second, .val (.long v51), .second, .val (.ref ob_919), .val (.ref ob_921), .val (.ref ob_923), .val (.ref ob_925), .val (.ref vc0), .val (.ref vc1), .val (.ref vc2), .val (.ref b994), .unset, .unset, .unset, .unset, .unset, .unset] [] X999 hx hby e0_147_1 rfl rfl ?_
                      refine own_nO X999 hx hZ hown (wd32 hw) (wd33 hw) (wd34 hw) rfl 152 (hb hby at_149) rfl (by decide) (by decide) fun T1000 h1000 b1000 g1000 X1000 e1000 E1000 A1000 D1000 UN1000 => ?_
                      have ll1000 : @LT.lt Nat _ b1000 (Array.size h1000) := A1000.lt
                      have z1000 := E1000.1
                      have F1001 : fl5 Z h1000 b1000 (.int (0 : Int32)) := D1000 (Or.inl (wd52 hw)) (ty := .int) (by decide)
                      have F1002 : fl7 Z h1000 b1000 .null := D1000 (Or.inl (wd55 hw)) (ty := (.array (.object "java/lang/Object"))) (by decide)
                      have F1003 : fl6 Z h1000 b1000 (.int (0 : Int32)) := D1000 (Or.inl (wd68 hw)) (ty := .int) (by decide)
                      refine own_ru 153 [(.ref b1000), (.ref b1000)] X1000 hx hby e0_152_1 rfl rfl ?_
                      have f1004 := ((f998.keep K999 (allS (by omega) all0)).ext E1000)
                      refine own_cN X1000 hx hZ hown rfl (wd35 hw) (wd36 hw) (by decide) (wd37 hw) (wd34 hw) (rm5 l Z a0 hw [] o_EXTRA_HIGH o_HIGH o_ZERO o_DEF kDEF o_pos cl_pos o_neg cl_neg b1000 h1000 n0 (by omega) f1004 A A1000 F1001 F1003 F1002 (by omega)) e1000  [] [(.ref b1000)] 156 1 (hb hby at_153) rfl (by rw [hml]; rfl) rfl rfl (lenOf pd_0 rfl) rfl (by decide) fun v1005 T1005 Lc1005 X1005 hQ1005 => ?_
                      obtain ⟨rfl, N1005q, K1005, G1005_0, G1005_1, G1005_2, G1005_3⟩ := hQ1005
                      have N1005 := Fr.app N999 N1005q
                      have z1005 := K1005.1
                      have lt1005_0 : @LT.lt Nat _ b1000 (Array.size T1005.heap) := G1005_0.lt
                      refine own_rl 158 #[.val (.int i0), .val (.int i1), .val (.int i2), .val (.int i3), .val (.long i4), .second, .val (.int (1 : Int32)), .val (.int (0 : Int32)), .val (.long v27), .second, .val (.long v39), .second, .val (.long v51), .second, .val (.ref ob_919), .val (.ref ob_921), .val (.ref ob_923), .val (.ref ob_925), .val (.ref vc0), .val (.ref vc1), .val (.ref vc2), .val (.ref b994), .val (.ref b1000), .unset, .unset, .unset, .unset, .unset] [] X1005 hx hby e0_156_1 rfl rfl ?_
                      refine own_nO X1005 hx hZ hown (wd32 hw) (wd33 hw) (wd34 hw) rfl 161 (hb hby at_158) rfl (by decide) (by decide) fun T1006 h1006 b1006 g1006 X1006 e1006 E1006 A1006 D1006 UN1006 => ?_
                      have ll1006 : @LT.lt Nat _ b1006 (Array.size h1006) := A1006.lt
                      have z1006 := E1006.1
                      have F1007 : fl5 Z h1006 b1006 (.int (0 : Int32)) := D1006 (Or.inl (wd52 hw)) (ty := .int) (by decide)
                      have F1008 : fl7 Z h1006 b1006 .null := D1006 (Or.inl (wd55 hw)) (ty := (.array (.object "java/lang/Object"))) (by decide)
                      have F1009 : fl6 Z h1006 b1006 (.int (0 : Int32)) := D1006 (Or.inl (wd68 hw)) (ty := .int) (by decide)
                      refine own_ru 162 [(.ref b1006), (.ref b1006)] X1006 hx hby e0_161_1 rfl rfl ?_
                      have f1010 := ((f1004.keep K1005 (allS (by omega) all0)).ext E1006)
                      refine own_cN X1006 hx hZ hown rfl (wd35 hw) (wd36 hw) (by decide) (wd37 hw) (wd34 hw) (rm5 l Z a0 hw [] o_EXTRA_HIGH o_HIGH o_ZERO o_DEF kDEF o_pos cl_pos o_neg cl_neg b1006 h1006 n0 (by omega) f1010 A A1006 F1007 F1009 F1008 (by omega)) e1006  [] [(.ref b1006)] 165 1 (hb hby at_162) rfl (by rw [hml]; rfl) rfl rfl (lenOf pd_0 rfl) rfl (by decide) fun v1011 T1011 Lc1011 X1011 hQ1011 => ?_
                      obtain ⟨rfl, N1011q, K1011, G1011_0, G1011_1, G1011_2, G1011_3⟩ := hQ1011
                      have N1011 := Fr.app N1005 N1011q
                      have z1011 := K1011.1
                      have lt1011_0 : @LT.lt Nat _ b1006 (Array.size T1011.heap) := G1011_0.lt
                      refine own_rl 171 #[.val (.int i0), .val (.int i1), .val (.int i2), .val (.int i3), .val (.long i4), .second, .val (.int (1 : Int32)), .val (.int (0 : Int32)), .val (.long v27), .second, .val (.long v39), .second, .val (.long v51), .second, .val (.ref ob_919), .val (.ref ob_921), .val (.ref ob_923), .val (.ref ob_925), .val (.ref vc0), .val (.ref vc1), .val (.ref vc2), .val (.ref b994), .val (.ref b1000), .val (.ref b1006), .unset, .unset, .unset, .unset] [(.ref ob_925), (.ref b994)] X1011 hx hby e0_165_3 rfl rfl ?_
                      have f1012 := (f1010.keep K1011 (allS (by omega) all0))
                      have f1013 := (Exa.keep (Exa.ext E1006 (Exa.keep (Exa.ext E1000 G999_0) K1005)) K1011)
                      have f1014 := ((Fld.ext E1006 ((Fld.ext E1000 G999_1).keep K1005 (own_nS (by omega) nin0))).keep K1011 (own_nS (by omega) nin0))
                      have f1015 := ((Fld.ext E1006 ((Fld.ext E1000 G999_2).keep K1005 (own_nS (by omega) nin0))).keep K1011 (own_nS (by omega) nin0))
                      have f1016 := ((Fld.ext E1006 ((Fld.ext E1000 G999_3).keep K1005 (own_nS (by omega) nin0))).keep K1011 (own_nS (by omega) nin0))
                      have f1017 := (Exa.keep (Exa.ext E1006 (Exa.keep (Exa.ext E1000 (Exa.keep (Exa.ext E994 FJ928_4) K999)) K1005)) K1011)
                      have f1018 : Ins Z T1011.heap ob_925 "java/lang/Object" true := (Ins.of_exa f1017 (wd90 hw))
                      refine own_cI X1011 hx hZ hown (wd56 hw) (wd57 hw) (mvT hZ (wd58 hw)) (wd59 hw) (wd60 hw) (wd61 hw) (wd62 hw) (wd63 hw) (by decide) (wd64 hw) (wd34 hw) (rm8z l Z a0 hw [] o_EXTRA_HIGH o_HIGH o_ZERO o_DEF kDEF o_pos cl_pos o_neg cl_neg b994 ob_925 (0 : Int32) T1011.heap n0 (by omega) f1012 A f1013 f1014 f1015 f1016 f1018 (by omega)) rfl f1013 [(.ref ob_925)] [] 176 0 (hb hby at_171) rfl (by rw [hml]; rfl) rfl rfl (lenOf pd_11 rfl) rfl (by decide) fun v1019 T1019 Lc1019 X1019 hQ1019 => ?_
                      obtain ⟨ar_1019, kk_1019, rfl, N1019q, K1019, G1019_0, G1019_1, G1019_2, G1019_3, G1019_4, U1019_0, U1019_1⟩ := hQ1019
                      have N1019 := Fr.app N1011 N1019q
                      have z1019 := K1019.1
                      have lt1019_0 : @LT.lt Nat _ b994 (Array.size T1019.heap) := G1019_0.lt
                      have G1019_1' : fl5 Z T1019.heap b994 (.int (1 : Int32)) := G1019_1
                      have lt1019_4 : @LT.lt Nat _ ar_1019 (Array.size T1019.heap) := G1019_4.lt
                      refine own_ru 181 [(.ref vc0), (.ref b1000)] X1019 hx hby e0_176_3 rfl rfl ?_
                      have f1020 := (f1012.keep K1019 (allS (by omega) all0))
                      have f1021 := (Exa.keep (Exa.keep (Exa.ext E1006 G1005_0) K1011) K1019)
                      have f1022 := (((Fld.ext E1006 G1005_1).keep K1011 (own_nS (by omega) nin0)).keep K1019 (own_nS (by omega) nin0))
                      have f1023 := (((Fld.ext E1006 G1005_2).keep K1011 (own_nS (by omega) nin0)).keep K1019 (own_nS (by omega) nin0))
                      have f1024 := (((Fld.ext E1006 G1005_3).keep K1011 (own_nS (by omega) nin0)).keep K1019 (own_nS (by omega) nin0))
                      have f1025 := (Exa.keep (Exa.keep (Exa.ext E1006 (Exa.keep (Exa.ext E1000 (Exa.keep (Exa.ext E994 FJ928_5) K999)) K1005)) K1011) K1019)
                      have f1026 : Ins Z T1019.heap vc0 "java/lang/Object" true := (Ins.of_exa f1025 (wd91 hw))
                      refine own_cI X1019 hx hZ hown (wd56 hw) (wd57 hw) (mvT hZ (wd58 hw)) (wd59 hw) (wd60 hw) (wd61 hw) (wd62 hw) (wd63 hw) (by decide) (wd64 hw) (wd34 hw) (rm8z l Z a0 hw [] o_EXTRA_HIGH o_HIGH o_ZERO o_DEF kDEF o_pos cl_pos o_neg cl_neg b1000 vc0 (0 : Int32) T1019.heap n0 (by omega) f1020 A f1021 f1022 f1023 f1024 f1026 (by omega)) rfl f1021 [(.ref vc0)] [] 186 0 (hb hby at_181) rfl (by rw [hml]; rfl) rfl rfl (lenOf pd_11 rfl) rfl (by decide) fun v1027 T1027 Lc1027 X1027 hQ1027 => ?_
                      obtain ⟨ar_1027, kk_1027, rfl, N1027q, K1027, G1027_0, G1027_1, G1027_2, G1027_3, G1027_4, U1027_0, U1027_1⟩ := hQ1027
                      have N1027 := Fr.app N1019 N1027q
                      have z1027 := K1027.1
                      have lt1027_0 : @LT.lt Nat _ b1000 (Array.size T1027.heap) := G1027_0.lt
                      have G1027_1' : fl5 Z T1027.heap b1000 (.int (1 : Int32)) := G1027_1
                      have lt1027_4 : @LT.lt Nat _ ar_1027 (Array.size T1027.heap) := G1027_4.lt
                      refine own_ru 190 [(.int (2 : Int32)), (.int (1 : Int32))] X1027 hx hby e0_186_3 rfl rfl ?_
                      refine own_kY 213 X1027 hx (hb hby at_190) rfl (tlt (by decide : ((1 : Int32) < (2 : Int32)))).1 (by decide) (by decide) ?_
                      refine own_ru 216 [(.int (3 : Int32)), (.int (1 : Int32))] X1027 hx hby e0_213_2 rfl rfl ?_
                      refine own_kY 239 X1027 hx (hb hby at_216) rfl (tlt (by decide : ((1 : Int32) < (3 : Int32)))).1 (by decide) (by decide) ?_
                      refine own_ru 241 [(.int (0 : Int32))] X1027 hx hby e0_239_1 rfl rfl ?_
                      refine own_iY 249 X1027 hx (hb hby at_241) rfl ((if0 _ _).trans (teq (by decide : ((0 : Int32) = (0 : Int32)))).1) (by decide) (by decide) ?_
                      refine own_rl 258 #[.val (.int i0), .val (.int i1), .val (.int i2), .val (.int i3), .val (.long i4), .second, .val (.int (1 : Int32)), .val (.int (0 : Int32)), .val (.long v27), .second, .val (.long v39), .second, .val (.long v51), .second, .val (.ref ob_919), .val (.ref ob_921), .val (.ref ob_923), .val (.ref ob_925), .val (.ref vc0), .val (.ref vc1), .val (.ref vc2), .val (.ref b994), .val (.ref b1000), .val (.ref b1006), .val (.int (0 : Int32)), .unset, .unset, .unset] [(.int (1 : Int32)), (.int (0 : Int32))] X1027 hx hby e0_249_6 rfl rfl ?_
                      refine own_kY 271 X1027 hx (hb hby at_258) rfl (tlt (by decide : ((0 : Int32) < (1 : Int32)))).1 (by decide) (by decide) ?_
                      refine own_ru 274 [(.int (2 : Int32)), (.int (0 : Int32))] X1027 hx hby e0_271_2 rfl rfl ?_
                      refine own_kY 287 X1027 hx (hb hby at_274) rfl (tlt (by decide : ((0 : Int32) < (2 : Int32)))).1 (by decide) (by decide) ?_
                      refine own_ru 290 [(.int (3 : Int32)), (.int (0 : Int32))] X1027 hx hby e0_287_2 rfl rfl ?_
                      refine own_kY 303 X1027 hx (hb hby at_290) rfl (tlt (by decide : ((0 : Int32) < (3 : Int32)))).1 (by decide) (by decide) ?_
                      refine own_rl 308 #[.val (.int i0), .val (.int i1), .val (.int i2), .val (.int i3), .val (.long i4), .second, .val (.int (1 : Int32)), .val (.int (0 : Int32)), .val (.long v27), .second, .val (.long v39), .second, .val (.long v51), .second, .val (.ref ob_919), .val (.ref ob_921), .val (.ref ob_923), .val (.ref ob_925), .val (.ref vc0), .val (.ref vc1), .val (.ref vc2), .val (.ref b994), .val (.ref b1000), .val (.ref b1006), .val (.int (0 : Int32)), .val .null, .unset, .unset] [(.int (0 : Int32))] X1027 hx hby e0_303_3 rfl rfl ?_
                      refine own_iY 341 X1027 hx (hb hby at_308) rfl ((if0 _ _).trans (teq (by decide : ((0 : Int32) = (0 : Int32)))).1) (by decide) (by decide) ?_
                      refine own_nO X1027 hx hZ hown (wd92 hw) (wd93 hw) (wd94 hw) rfl 344 (hb hby at_341) rfl (by decide) (by decide) fun T1028 h1028 b1028 g1028 X1028 e1028 E1028 A1028 D1028 UN1028 => ?_
                      have ll1028 : @LT.lt Nat _ b1028 (Array.size h1028) := A1028.lt
                      have z1028 := E1028.1
                      have F1029 : fl14 Z h1028 b1028 .null := D1028 (Or.inr (wd102 hw)) (ty := (.object "java/util/List")) (by decide)
                      refine own_ru 351 [(.ref b1006), (.ref b1000), (.ref b994), (.ref b1028), (.ref b1028)] X1028 hx hby e0_344_4 rfl rfl ?_
                      have f1030 := ((f1020.keep K1027 (allS (by omega) all0)).ext E1028)
                      have f1031 := (Exa.ext E1028 (Exa.keep G1019_0 K1027))
                      have f1032 := (Fld.ext E1028 (G1019_2.keep K1027 (own_nS (by omega) nin0)))
                      have f1033 := (Fld.ext E1028 (G1019_3.keep K1027 (own_nS (by omega) nin0)))
                      have f1034 := ((G1019_4.keep K1027 (own_nS (by omega) nin0)).ext E1028)
                      have f1035 := (Exa.ext E1028 G1027_0)
                      have f1036 := (Fld.ext E1028 G1027_2)
                      have f1037 := (Fld.ext E1028 G1027_3)
                      have f1038 := (G1027_4.ext E1028)
                      have f1039 := (Exa.ext E1028 (Exa.keep (Exa.keep G1011_0 K1019) K1027))
                      have f1040 := (Fld.ext E1028 ((G1011_2.keep K1019 (own_nS (by omega) nin0)).keep K1027 (own_nS (by omega) nin0)))
                      have f1041 := (Exa.ext E1028 (Exa.keep (Exa.keep f1017 K1019) K1027))
                      have f1042 := (Exa.ext E1028 (Exa.keep f1025 K1027))
                      refine own_cN X1028 hx hZ hown rfl (wd95 hw) (wd96 hw) (by decide) (wd97 hw) (wd94 hw) (rm13t10 l Z a0 hw [] o_EXTRA_HIGH o_HIGH o_ZERO o_DEF kDEF o_pos cl_pos o_neg cl_neg b1028 b994 b1000 b1006 ar_1019 kk_1019 ar_1027 kk_1027 ob_925 vc0 h1028 n0 (by omega) f1030 A A1028 F1029 f1031 f1032 f1033 f1034 f1035 f1036 f1037 f1038 f1039 f1040 f1041 f1042 (by omega) (by first | assumption | decide | omega) (by first | assumption | decide | omega) (by first | assumption | decide | omega) (by first | assumption | decide | omega) (by first | assumption | decide | omega)) e1028  [(.ref b994), (.ref b1000), (.ref b1006)] [(.ref b1028)] 354 1 (hb hby at_351) rfl (by rw [hml]; rfl) rfl rfl (lenOf pd_13 rfl) rfl (by decide) fun v1043 T1043 Lc1043 X1043 hQ1043 => ?_
                      obtain ⟨vl_1043, ra_1043, kr_1043, vo0_1043, rfl, N1043q, K1043, G1043_0, G1043_1, G1043_2, G1043_3, G1043_4, G1043_5, G1043_6, G1043_7⟩ := hQ1043
                      have N1043 := Fr.app N1027 N1043q
                      have z1043 := K1043.1
                      have lt1043_0 : @LT.lt Nat _ b1028 (Array.size T1043.heap) := G1043_0.lt
                      have lt1043_2 : @LT.lt Nat _ vl_1043 (Array.size T1043.heap) := G1043_2.lt
                      have lt1043_5 : @LT.lt Nat _ ra_1043 (Array.size T1043.heap) := G1043_5.lt
                      have lt1043_6 : @LT.lt Nat _ vo0_1043 (Array.size T1043.heap) := G1043_6.lt
                      refine own_rl 358 #[.val (.int i0), .val (.int i1), .val (.int i2), .val (.int i3), .val (.long i4), .second, .val (.int (1 : Int32)), .val (.int (0 : Int32)), .val (.long v27), .second, .val (.long v39), .second, .val (.long v51), .second, .val (.ref ob_919), .val (.ref ob_921), .val (.ref ob_923), .val (.ref ob_925), .val (.ref vc0), .val (.ref vc1), .val (.ref vc2), .val (.ref b994), .val (.ref b1000), .val (.ref b1006), .val (.int (0 : Int32)), .val .null, .val (.ref b1028), .unset] [(.ref b1028)] X1043 hx hby e0_354_2 rfl rfl ?_
                      refine own_cV X1043 hx hZ hown (wd160 hw) (wd161 hw) (notFace_of_selects (args := #[]) (mvT hZ (wd163 hw))) (wd163 hw) (wd162 hw) (by decide) (wd164 hw) (wd94 hw) (rm21b1n l Z a0 hw [] b1028 vl_1043 ra_1043 kr_1043 [(.ref vo0_1043), .null, .null, .null, .null, .null, .null, .null, .null, .null] vo0_1043 T1043.heap n0 (by omega) G1043_0 G1043_1 G1043_2 G1043_3 G1043_4 G1043_5 G1043_6 G1043_7 rfl) rfl G1043_0 [] [] 361 0 (hb hby at_358) rfl (by rw [hml]; rfl) rfl rfl (lenOf pd_14 rfl) rfl (by decide) fun v1044 T1044 Lc1044 X1044 hQ1044 => ?_
                      obtain ⟨rfl, N1044q, e1044⟩ := hQ1044
                      have N1044 := Fr.app N1043 N1044q
                      refine own_rl 365 #[.val (.int i0), .val (.int i1), .val (.int i2), .val (.int i3), .val (.long i4), .second, .val (.int (1 : Int32)), .val (.int (0 : Int32)), .val (.long v27), .second, .val (.long v39), .second, .val (.long v51), .second, .val (.ref ob_919), .val (.ref ob_921), .val (.ref ob_923), .val (.ref ob_925), .val (.ref vc0), .val (.ref vc1), .val (.ref vc2), .val (.ref b994), .val (.ref b1000), .val (.ref b1006), .val (.int (0 : Int32)), .val .null, .val (.ref b1028), .val .null] [.null] X1044 hx hby e0_361_2 rfl rfl ?_
                      refine own_st 368 [] (fun t k => XS.ifnonnullNo X1044.here hx rfl (hb hby at_365) rfl k) ?_
                      refine own_ru 370 [.null] X1044 hx hby e0_368_1 rfl rfl ?_
                      refine own_st 373 [] (fun t k => XS.ifnonnullNo X1044.here hx rfl (hb hby at_370) rfl k) ?_
                      refine own_ru 374 [(.int (1 : Int32))] X1044 hx hby e0_373_1 rfl rfl ?_
                      as_aux_lemma =>
                        refine own_go 378 X1044 hx (hb hby at_374) (by decide) (by decide) ?_
                        have hq1045 : Q0 Z o_EXTRA_HIGH o_HIGH o_ZERO o_DEF kDEF o_pos cl_pos o_neg cl_neg i0 i1 i2 i3 i4 h0 n0 (some (.int (nar .boolean (1 : Int32)))) T1043.heap _ := ⟨rfl, N1044⟩
                        exact own_retN X1044 hx hlk (t := .boolean) hrt (by simp) (hb hby at_378) e1044 hq1045 (by decide) (by decide)
                  · as_aux_lemma =>
                      refine own_nO XJ928 hx hZ hown (wd32 hw) (wd33 hw) (wd34 hw) eJ928 143 (hb hby at_140) rfl (by decide) (by decide) fun T1046 h1046 b1046 g1046 X1046 e1046 E1046 A1046 D1046 UN1046 => ?_
                      have ll1046 : @LT.lt Nat _ b1046 (Array.size h1046) := A1046.lt
                      have z1046 := E1046.1
                      have F1047 : fl5 Z h1046 b1046 (.int (0 : Int32)) := D1046 (Or.inl (wd52 hw)) (ty := .int) (by decide)
                      have F1048 : fl7 Z h1046 b1046 .null := D1046 (Or.inl (wd55 hw)) (ty := (.array (.object "java/lang/Object"))) (by decide)
                      have F1049 : fl6 Z h1046 b1046 (.int (0 : Int32)) := D1046 (Or.inl (wd68 hw)) (ty := .int) (by decide)
                      refine own_rl 144 #[.val (.int i0), .val (.int i1), .val (.int i2), .val (.int i3), .val (.long i4), .second, .val (.int (2 : Int32)), .val (.int (1 : Int32)), .val (.long v27), .second, .val (.long v39), .second, .val (.long v51), .second, .val (.ref ob_919), .val (.ref ob_921), .val (.ref ob_923), .val (.ref ob_925), .val (.ref vc0), .val (.ref vc1), .val (.ref vc2), .unset, .unset, .unset, .unset, .unset, .unset, .unset] [(.ref b1046), (.ref b1046)] X1046 hx hby e0_143_1 rfl rfl ?_
                      have f1050 := (FJ928_0.ext E1046)
                      refine own_cN X1046 hx hZ hown rfl (wd35 hw) (wd36 hw) (by decide) (wd37 hw) (wd34 hw) (rm5 l Z a0 hw [] o_EXTRA_HIGH o_HIGH o_ZERO o_DEF kDEF o_pos cl_pos o_neg cl_neg b1046 h1046 n0 (by omega) f1050 A A1046 F1047 F1049 F1048 (by omega)) e1046  [] [(.ref b1046)] 147 1 (hb hby at_144) rfl (by rw [hml]; rfl) rfl rfl (lenOf pd_0 rfl) rfl (by decide) fun v1051 T1051 Lc1051 X1051 hQ1051 => ?_
                      obtain ⟨rfl, N1051q, K1051, G1051_0, G1051_1, G1051_2, G1051_3⟩ := hQ1051
                      have N1051 := Fr.app NJ928 N1051q
                      have z1051 := K1051.1
                      have lt1051_0 : @LT.lt Nat _ b1046 (Array.size T1051.heap) := G1051_0.lt
                      refine own_rl 149 #[.val (.int i0), .val (.int i1), .val (.int i2), .val (.int i3), .val (.long i4), .second, .val (.int (2 : Int32)), .val (.int (1 : Int32)), .val (.long v27), .second, .val (.long v39), .second, .val (.long v51), .second, .val (.ref ob_919), .val (.ref ob_921), .val (.ref ob_923), .val (.ref ob_925), .val (.ref vc0), .val (.ref vc1), .val (.ref vc2), .val (.ref b1046), .unset, .unset, .unset, .unset, .unset, .unset] [] X1051 hx hby e0_147_1 rfl rfl ?_
                      refine own_nO X1051 hx hZ hown (wd32 hw) (wd33 hw) (wd34 hw) rfl 152 (hb hby at_149) rfl (by decide) (by decide) fun T1052 h1052 b1052 g1052 X1052 e1052 E1052 A1052 D1052 UN1052 => ?_
                      have ll1052 : @LT.lt Nat _ b1052 (Array.size h1052) := A1052.lt
                      have z1052 := E1052.1
                      have F1053 : fl5 Z h1052 b1052 (.int (0 : Int32)) := D1052 (Or.inl (wd52 hw)) (ty := .int) (by decide)
                      have F1054 : fl7 Z h1052 b1052 .null := D1052 (Or.inl (wd55 hw)) (ty := (.array (.object "java/lang/Object"))) (by decide)
                      have F1055 : fl6 Z h1052 b1052 (.int (0 : Int32)) := D1052 (Or.inl (wd68 hw)) (ty := .int) (by decide)
                      refine own_ru 153 [(.ref b1052), (.ref b1052)] X1052 hx hby e0_152_1 rfl rfl ?_
                      have f1056 := ((f1050.keep K1051 (allS (by omega) all0)).ext E1052)
                      refine own_cN X1052 hx hZ hown rfl (wd35 hw) (wd36 hw) (by decide) (wd37 hw) (wd34 hw) (rm5 l Z a0 hw [] o_EXTRA_HIGH o_HIGH o_ZERO o_DEF kDEF o_pos cl_pos o_neg cl_neg b1052 h1052 n0 (by omega) f1056 A A1052 F1053 F1055 F1054 (by omega)) e1052  [] [(.ref b1052)] 156 1 (hb hby at_153) rfl (by rw [hml]; rfl) rfl rfl (lenOf pd_0 rfl) rfl (by decide) fun v1057 T1057 Lc1057 X1057 hQ1057 => ?_
                      obtain ⟨rfl, N1057q, K1057, G1057_0, G1057_1, G1057_2, G1057_3⟩ := hQ1057
                      have N1057 := Fr.app N1051 N1057q
                      have z1057 := K1057.1
                      have lt1057_0 : @LT.lt Nat _ b1052 (Array.size T1057.heap) := G1057_0.lt
                      refine own_rl 158 #[.val (.int i0), .val (.int i1), .val (.int i2), .val (.int i3), .val (.long i4), .second, .val (.int (2 : Int32)), .val (.int (1 : Int32)), .val (.long v27), .second, .val (.long v39), .second, .val (.long v51), .second, .val (.ref ob_919), .val (.ref ob_921), .val (.ref ob_923), .val (.ref ob_925), .val (.ref vc0), .val (.ref vc1), .val (.ref vc2), .val (.ref b1046), .val (.ref b1052), .unset, .unset, .unset, .unset, .unset] [] X1057 hx hby e0_156_1 rfl rfl ?_
                      refine own_nO X1057 hx hZ hown (wd32 hw) (wd33 hw) (wd34 hw) rfl 161 (hb hby at_158) rfl (by decide) (by decide) fun T1058 h1058 b1058 g1058 X1058 e1058 E1058 A1058 D1058 UN1058 => ?_
                      have ll1058 : @LT.lt Nat _ b1058 (Array.size h1058) := A1058.lt
                      have z1058 := E1058.1
                      have F1059 : fl5 Z h1058 b1058 (.int (0 : Int32)) := D1058 (Or.inl (wd52 hw)) (ty := .int) (by decide)
                      have F1060 : fl7 Z h1058 b1058 .null := D1058 (Or.inl (wd55 hw)) (ty := (.array (.object "java/lang/Object"))) (by decide)
                      have F1061 : fl6 Z h1058 b1058 (.int (0 : Int32)) := D1058 (Or.inl (wd68 hw)) (ty := .int) (by decide)
                      refine own_ru 162 [(.ref b1058), (.ref b1058)] X1058 hx hby e0_161_1 rfl rfl ?_
                      have f1062 := ((f1056.keep K1057 (allS (by omega) all0)).ext E1058)
                      refine own_cN X1058 hx hZ hown rfl (wd35 hw) (wd36 hw) (by decide) (wd37 hw) (wd34 hw) (rm5 l Z a0 hw [] o_EXTRA_HIGH o_HIGH o_ZERO o_DEF kDEF o_pos cl_pos o_neg cl_neg b1058 h1058 n0 (by omega) f1062 A A1058 F1059 F1061 F1060 (by omega)) e1058  [] [(.ref b1058)] 165 1 (hb hby at_162) rfl (by rw [hml]; rfl) rfl rfl (lenOf pd_0 rfl) rfl (by decide) fun v1063 T1063 Lc1063 X1063 hQ1063 => ?_
                      obtain ⟨rfl, N1063q, K1063, G1063_0, G1063_1, G1063_2, G1063_3⟩ := hQ1063
                      have N1063 := Fr.app N1057 N1063q
                      have z1063 := K1063.1
                      have lt1063_0 : @LT.lt Nat _ b1058 (Array.size T1063.heap) := G1063_0.lt
                      refine own_rl 171 #[.val (.int i0), .val (.int i1), .val (.int i2), .val (.int i3), .val (.long i4), .second, .val (.int (2 : Int32)), .val (.int (1 : Int32)), .val (.long v27), .second, .val (.long v39), .second, .val (.long v51), .second, .val (.ref ob_919), .val (.ref ob_921), .val (.ref ob_923), .val (.ref ob_925), .val (.ref vc0), .val (.ref vc1), .val (.ref vc2), .val (.ref b1046), .val (.ref b1052), .val (.ref b1058), .unset, .unset, .unset, .unset] [(.ref ob_925), (.ref b1046)] X1063 hx hby e0_165_3 rfl rfl ?_
                      have f1064 := (f1062.keep K1063 (allS (by omega) all0))
                      have f1065 := (Exa.keep (Exa.ext E1058 (Exa.keep (Exa.ext E1052 G1051_0) K1057)) K1063)
                      have f1066 := ((Fld.ext E1058 ((Fld.ext E1052 G1051_1).keep K1057 (own_nS (by omega) nin0))).keep K1063 (own_nS (by omega) nin0))
                      have f1067 := ((Fld.ext E1058 ((Fld.ext E1052 G1051_2).keep K1057 (own_nS (by omega) nin0))).keep K1063 (own_nS (by omega) nin0))
                      have f1068 := ((Fld.ext E1058 ((Fld.ext E1052 G1051_3).keep K1057 (own_nS (by omega) nin0))).keep K1063 (own_nS (by omega) nin0))
                      have f1069 := (Exa.keep (Exa.ext E1058 (Exa.keep (Exa.ext E1052 (Exa.keep (Exa.ext E1046 FJ928_4) K1051)) K1057)) K1063)
                      have f1070 : Ins Z T1063.heap ob_925 "java/lang/Object" true := (Ins.of_exa f1069 (wd90 hw))
                      refine own_cI X1063 hx hZ hown (wd56 hw) (wd57 hw) (mvT hZ (wd58 hw)) (wd59 hw) (wd60 hw) (wd61 hw) (wd62 hw) (wd63 hw) (by decide) (wd64 hw) (wd34 hw) (rm8z l Z a0 hw [] o_EXTRA_HIGH o_HIGH o_ZERO o_DEF kDEF o_pos cl_pos o_neg cl_neg b1046 ob_925 (0 : Int32) T1063.heap n0 (by omega) f1064 A f1065 f1066 f1067 f1068 f1070 (by omega)) rfl f1065 [(.ref ob_925)] [] 176 0 (hb hby at_171) rfl (by rw [hml]; rfl) rfl rfl (lenOf pd_11 rfl) rfl (by decide) fun v1071 T1071 Lc1071 X1071 hQ1071 => ?_
                      obtain ⟨ar_1071, kk_1071, rfl, N1071q, K1071, G1071_0, G1071_1, G1071_2, G1071_3, G1071_4, U1071_0, U1071_1⟩ := hQ1071
                      have N1071 := Fr.app N1063 N1071q
                      have z1071 := K1071.1
                      have lt1071_0 : @LT.lt Nat _ b1046 (Array.size T1071.heap) := G1071_0.lt
                      have G1071_1' : fl5 Z T1071.heap b1046 (.int (1 : Int32)) := G1071_1
                      have lt1071_4 : @LT.lt Nat _ ar_1071 (Array.size T1071.heap) := G1071_4.lt
                      refine own_ru 181 [(.ref vc0), (.ref b1052)] X1071 hx hby e0_176_3 rfl rfl ?_
                      have f1072 := (f1064.keep K1071 (allS (by omega) all0))
                      have f1073 := (Exa.keep (Exa.keep (Exa.ext E1058 G1057_0) K1063) K1071)
                      have f1074 := (((Fld.ext E1058 G1057_1).keep K1063 (own_nS (by omega) nin0)).keep K1071 (own_nS (by omega) nin0))
                      have f1075 := (((Fld.ext E1058 G1057_2).keep K1063 (own_nS (by omega) nin0)).keep K1071 (own_nS (by omega) nin0))
                      have f1076 := (((Fld.ext E1058 G1057_3).keep K1063 (own_nS (by omega) nin0)).keep K1071 (own_nS (by omega) nin0))
                      have f1077 := (Exa.keep (Exa.keep (Exa.ext E1058 (Exa.keep (Exa.ext E1052 (Exa.keep (Exa.ext E1046 FJ928_5) K1051)) K1057)) K1063) K1071)
                      have f1078 : Ins Z T1071.heap vc0 "java/lang/Object" true := (Ins.of_exa f1077 (wd91 hw))
                      refine own_cI X1071 hx hZ hown (wd56 hw) (wd57 hw) (mvT hZ (wd58 hw)) (wd59 hw) (wd60 hw) (wd61 hw) (wd62 hw) (wd63 hw) (by decide) (wd64 hw) (wd34 hw) (rm8z l Z a0 hw [] o_EXTRA_HIGH o_HIGH o_ZERO o_DEF kDEF o_pos cl_pos o_neg cl_neg b1052 vc0 (0 : Int32) T1071.heap n0 (by omega) f1072 A f1073 f1074 f1075 f1076 f1078 (by omega)) rfl f1073 [(.ref vc0)] [] 186 0 (hb hby at_181) rfl (by rw [hml]; rfl) rfl rfl (lenOf pd_11 rfl) rfl (by decide) fun v1079 T1079 Lc1079 X1079 hQ1079 => ?_
                      obtain ⟨ar_1079, kk_1079, rfl, N1079q, K1079, G1079_0, G1079_1, G1079_2, G1079_3, G1079_4, U1079_0, U1079_1⟩ := hQ1079
                      have N1079 := Fr.app N1071 N1079q
                      have z1079 := K1079.1
                      have lt1079_0 : @LT.lt Nat _ b1052 (Array.size T1079.heap) := G1079_0.lt
                      have G1079_1' : fl5 Z T1079.heap b1052 (.int (1 : Int32)) := G1079_1
                      have lt1079_4 : @LT.lt Nat _ ar_1079 (Array.size T1079.heap) := G1079_4.lt
                      refine own_ru 190 [(.int (2 : Int32)), (.int (2 : Int32))] X1079 hx hby e0_186_3 rfl rfl ?_
                      refine own_kN 193 X1079 hx (hb hby at_190) rfl (flt (by decide : ¬ ((2 : Int32) < (2 : Int32)))).1 rfl ?_
                      refine own_ru 197 [(.ref ob_925), (.ref b1046)] X1079 hx hby e0_193_2 rfl rfl ?_
                      have f1080 := (Exa.keep G1071_0 K1079)
                      have f1081 := (G1071_1'.keep K1079 (own_nS (by omega) nin0))
                      have f1082 := (G1071_2.keep K1079 (own_nS (by omega) nin0))
                      have f1083 := (G1071_3.keep K1079 (own_nS (by omega) nin0))
                      have f1084 := (G1071_4.keep K1079 (own_nS (by omega) nin0))
                      have f1085 := (own_insKeep (own_insKeep f1070 K1071) K1079)
                      refine own_cI X1079 hx hZ hown (wd56 hw) (wd57 hw) (mvT hZ (wd58 hw)) (wd59 hw) (wd60 hw) (wd61 hw) (wd62 hw) (wd63 hw) (by decide) (wd64 hw) (wd34 hw) (rm8s1 l Z a0 hw [] b1046 ob_925 (1 : Int32) ar_1071 kk_1071 [(.ref ob_925), .null, .null, .null, .null, .null, .null, .null, .null, .null] T1079.heap n0 (by omega) f1080 f1081 f1082 f1083 f1084 f1085 (by omega) (by omega) rfl U1071_0 (by first | assumption | decide | omega)) rfl f1080 [(.ref ob_925)] [] 202 0 (hb hby at_197) rfl (by rw [hml]; rfl) rfl rfl (lenOf pd_11 rfl) rfl (by decide) fun v1086 T1086 Lc1086 X1086 hQ1086 => ?_
                      obtain ⟨rfl, N1086q, K1086, G1086_0, G1086_1, G1086_2, G1086_3, G1086_4⟩ := hQ1086
                      have N1086 := Fr.app N1079 N1086q
                      have z1086 := K1086.1
                      have lt1086_0 : @LT.lt Nat _ b1046 (Array.size T1086.heap) := G1086_0.lt
                      have G1086_1' : fl5 Z T1086.heap b1046 (.int (2 : Int32)) := G1086_1
                      have G1086_4' : Arv Z T1086.heap ar_1071 kk_1071 (.object "java/lang/Object") (10 : Int32) [(.ref ob_925), (.ref ob_925), .null, .null, .null, .null, .null, .null, .null, .null] .null := G1086_4
                      have lt1086_4 : @LT.lt Nat _ ar_1071 (Array.size T1086.heap) := G1086_4.lt
                      refine own_ru 207 [(.ref vc1), (.ref b1052)] X1086 hx hby e0_202_3 rfl rfl ?_
                      have f1087 := (Exa.keep G1079_0 K1086)
                      have f1088 := (G1079_1'.keep K1086 (own_nS (by omega) (own_nS (by omega) nin0)))
                      have f1089 := (G1079_2.keep K1086 (own_nS (by omega) (own_nS (by omega) nin0)))
                      have f1090 := (G1079_3.keep K1086 (own_nS (by omega) (own_nS (by omega) nin0)))
                      have f1091 := (G1079_4.keep K1086 (own_nS (by omega) (own_nS (by omega) nin0)))
                      have f1092 := (Exa.keep (Exa.keep (Exa.keep (Exa.keep (Exa.ext E1058 (Exa.keep (Exa.ext E1052 (Exa.keep (Exa.ext E1046 FJ928_6) K1051)) K1057)) K1063) K1071) K1079) K1086)
                      have f1093 : Ins Z T1086.heap vc1 "java/lang/Object" true := (Ins.of_exa f1092 (wd91 hw))
                      refine own_cI X1086 hx hZ hown (wd56 hw) (wd57 hw) (mvT hZ (wd58 hw)) (wd59 hw) (wd60 hw) (wd61 hw) (wd62 hw) (wd63 hw) (by decide) (wd64 hw) (wd34 hw) (rm8s1 l Z a0 hw [] b1052 vc1 (1 : Int32) ar_1079 kk_1079 [(.ref vc0), .null, .null, .null, .null, .null, .null, .null, .null, .null] T1086.heap n0 (by omega) f1087 f1088 f1089 f1090 f1091 f1093 (by omega) (by omega) rfl U1079_0 (by first | assumption | decide | omega)) rfl f1087 [(.ref vc1)] [] 212 0 (hb hby at_207) rfl (by rw [hml]; rfl) rfl rfl (lenOf pd_11 rfl) rfl (by decide) fun v1094 T1094 Lc1094 X1094 hQ1094 => ?_
                      obtain ⟨rfl, N1094q, K1094, G1094_0, G1094_1, G1094_2, G1094_3, G1094_4⟩ := hQ1094
                      have N1094 := Fr.app N1086 N1094q
                      have z1094 := K1094.1
                      have lt1094_0 : @LT.lt Nat _ b1052 (Array.size T1094.heap) := G1094_0.lt
                      have G1094_1' : fl5 Z T1094.heap b1052 (.int (2 : Int32)) := G1094_1
                      have G1094_4' : Arv Z T1094.heap ar_1079 kk_1079 (.object "java/lang/Object") (10 : Int32) [(.ref vc0), (.ref vc1), .null, .null, .null, .null, .null, .null, .null, .null] .null := G1094_4
                      have lt1094_4 : @LT.lt Nat _ ar_1079 (Array.size T1094.heap) := G1094_4.lt
                      refine own_ru 216 [(.int (3 : Int32)), (.int (2 : Int32))] X1094 hx hby e0_212_3 rfl rfl ?_
                      refine own_kY 239 X1094 hx (hb hby at_216) rfl (tlt (by decide : ((2 : Int32) < (3 : Int32)))).1 (by decide) (by decide) ?_
                      refine own_ru 241 [(.int (1 : Int32))] X1094 hx hby e0_239_1 rfl rfl ?_
                      refine own_iN 244 X1094 hx (hb hby at_241) rfl ((if0 _ _).trans (feq (by decide : ¬ ((1 : Int32) = (0 : Int32)))).1) rfl ?_
                      refine own_ru 246 [(.int (2 : Int32))] X1094 hx hby e0_244_1 rfl rfl ?_
                      refine own_go 253 X1094 hx (hb hby at_246) (by decide) (by decide) ?_
                      refine own_rl 258 #[.val (.int i0), .val (.int i1), .val (.int i2), .val (.int i3), .val (.long i4), .second, .val (.int (2 : Int32)), .val (.int (1 : Int32)), .val (.long v27), .second, .val (.long v39), .second, .val (.long v51), .second, .val (.ref ob_919), .val (.ref ob_921), .val (.ref ob_923), .val (.ref ob_925), .val (.ref vc0), .val (.ref vc1), .val (.ref vc2), .val (.ref b1046), .val (.ref b1052), .val (.ref b1058), .val (.int (2 : Int32)), .unset, .unset, .unset] [(.int (1 : Int32)), (.int (2 : Int32))] X1094 hx hby e0_253_3 rfl rfl ?_
                      refine own_kN 261 X1094 hx (hb hby at_258) rfl (flt (by decide : ¬ ((2 : Int32) < (1 : Int32)))).1 rfl ?_
                      refine own_ru 265 [(.ref ob_919), (.ref b1058)] X1094 hx hby e0_261_2 rfl rfl ?_
                      have f1095 := (((f1072.keep K1079 (allS (by omega) all0)).keep K1086 (allS (by omega) (allS (by omega) all0))).keep K1094 (allS (by omega) (allS (by omega) all0)))
                      have f1096 := (Exa.keep (Exa.keep (Exa.keep (Exa.keep G1063_0 K1071) K1079) K1086) K1094)
                      have f1097 := ((((G1063_1.keep K1071 (own_nS (by omega) nin0)).keep K1079 (own_nS (by omega) nin0)).keep K1086 (own_nS (by omega) (own_nS (by omega) nin0))).keep K1094 (own_nS (by omega) (own_nS (by omega) nin0)))
                      have f1098 := ((((G1063_2.keep K1071 (own_nS (by omega) nin0)).keep K1079 (own_nS (by omega) nin0)).keep K1086 (own_nS (by omega) (own_nS (by omega) nin0))).keep K1094 (own_nS (by omega) (own_nS (by omega) nin0)))
                      have f1099 := ((((G1063_3.keep K1071 (own_nS (by omega) nin0)).keep K1079 (own_nS (by omega) nin0)).keep K1086 (own_nS (by omega) (own_nS (by omega) nin0))).keep K1094 (own_nS (by omega) (own_nS (by omega) nin0)))
                      have f1100 := (Exa.keep (Exa.keep (Exa.keep (Exa.keep (Exa.keep (Exa.ext E1058 (Exa.keep (Exa.ext E1052 (Exa.keep (Exa.ext E1046 FJ928_1) K1051)) K1057)) K1063) K1071) K1079) K1086) K1094)
                      have f1101 : Ins Z T1094.heap ob_919 "java/lang/Object" true := (Ins.of_exa f1100 (wd90 hw))
                      refine own_cI X1094 hx hZ hown (wd56 hw) (wd57 hw) (mvT hZ (wd58 hw)) (wd59 hw) (wd60 hw) (wd61 hw) (wd62 hw) (wd63 hw) (by decide) (wd64 hw) (wd34 hw) (rm8z l Z a0 hw [] o_EXTRA_HIGH o_HIGH o_ZERO o_DEF kDEF o_pos cl_pos o_neg cl_neg b1058 ob_919 (0 : Int32) T1094.heap n0 (by omega) f1095 A f1096 f1097 f1098 f1099 f1101 (by omega)) rfl f1096 [(.ref ob_919)] [] 270 0 (hb hby at_265) rfl (by rw [hml]; rfl) rfl rfl (lenOf pd_11 rfl) rfl (by decide) fun v1102 T1102 Lc1102 X1102 hQ1102 => ?_
                      obtain ⟨ar_1102, kk_1102, rfl, N1102q, K1102, G1102_0, G1102_1, G1102_2, G1102_3, G1102_4, U1102_0, U1102_1⟩ := hQ1102
                      have N1102 := Fr.app N1094 N1102q
                      have z1102 := K1102.1
                      have lt1102_0 : @LT.lt Nat _ b1058 (Array.size T1102.heap) := G1102_0.lt
                      have G1102_1' : fl5 Z T1102.heap b1058 (.int (1 : Int32)) := G1102_1
                      have lt1102_4 : @LT.lt Nat _ ar_1102 (Array.size T1102.heap) := G1102_4.lt
                      refine own_ru 274 [(.int (2 : Int32)), (.int (2 : Int32))] X1102 hx hby e0_270_3 rfl rfl ?_
                      refine own_kN 277 X1102 hx (hb hby at_274) rfl (flt (by decide : ¬ ((2 : Int32) < (2 : Int32)))).1 rfl ?_
                      refine own_ru 281 [(.ref ob_921), (.ref b1058)] X1102 hx hby e0_277_2 rfl rfl ?_
                      have f1103 := (Exa.keep (Exa.keep (Exa.keep (Exa.keep (Exa.keep (Exa.keep (Exa.ext E1058 (Exa.keep (Exa.ext E1052 (Exa.keep (Exa.ext E1046 FJ928_2) K1051)) K1057)) K1063) K1071) K1079) K1086) K1094) K1102)
                      have f1104 : Ins Z T1102.heap ob_921 "java/lang/Object" true := (Ins.of_exa f1103 (wd90 hw))
                      refine own_cI X1102 hx hZ hown (wd56 hw) (wd57 hw) (mvT hZ (wd58 hw)) (wd59 hw) (wd60 hw) (wd61 hw) (wd62 hw) (wd63 hw) (by decide) (wd64 hw) (wd34 hw) (rm8s1 l Z a0 hw [] b1058 ob_921 (1 : Int32) ar_1102 kk_1102 [(.ref ob_919), .null, .null, .null, .null, .null, .null, .null, .null, .null] T1102.heap n0 (by omega) G1102_0 G1102_1' G1102_2 G1102_3 G1102_4 f1104 (by omega) (by omega) rfl U1102_0 (by first | assumption | decide | omega)) rfl G1102_0 [(.ref ob_921)] [] 286 0 (hb hby at_281) rfl (by rw [hml]; rfl) rfl rfl (lenOf pd_11 rfl) rfl (by decide) fun v1105 T1105 Lc1105 X1105 hQ1105 => ?_
                      obtain ⟨rfl, N1105q, K1105, G1105_0, G1105_1, G1105_2, G1105_3, G1105_4⟩ := hQ1105
                      have N1105 := Fr.app N1102 N1105q
                      have z1105 := K1105.1
                      have lt1105_0 : @LT.lt Nat _ b1058 (Array.size T1105.heap) := G1105_0.lt
                      have G1105_1' : fl5 Z T1105.heap b1058 (.int (2 : Int32)) := G1105_1
                      have G1105_4' : Arv Z T1105.heap ar_1102 kk_1102 (.object "java/lang/Object") (10 : Int32) [(.ref ob_919), (.ref ob_921), .null, .null, .null, .null, .null, .null, .null, .null] .null := G1105_4
                      have lt1105_4 : @LT.lt Nat _ ar_1102 (Array.size T1105.heap) := G1105_4.lt
                      refine own_ru 290 [(.int (3 : Int32)), (.int (2 : Int32))] X1105 hx hby e0_286_3 rfl rfl ?_
                      refine own_kY 303 X1105 hx (hb hby at_290) rfl (tlt (by decide : ((2 : Int32) < (3 : Int32)))).1 (by decide) (by decide) ?_
                      refine own_rl 308 #[.val (.int i0), .val (.int i1), .val (.int i2), .val (.int i3), .val (.long i4), .second, .val (.int (2 : Int32)), .val (.int (1 : Int32)), .val (.long v27), .second, .val (.long v39), .second, .val (.long v51), .second, .val (.ref ob_919), .val (.ref ob_921), .val (.ref ob_923), .val (.ref ob_925), .val (.ref vc0), .val (.ref vc1), .val (.ref vc2), .val (.ref b1046), .val (.ref b1052), .val (.ref b1058), .val (.int (2 : Int32)), .val .null, .unset, .unset] [(.int (1 : Int32))] X1105 hx hby e0_303_3 rfl rfl ?_
                      refine own_iN 311 X1105 hx (hb hby at_308) rfl ((if0 _ _).trans (feq (by decide : ¬ ((1 : Int32) = (0 : Int32)))).1) rfl ?_
                      as_aux_lemma =>
                        refine own_ru 314 [(.int (1 : Int32)), (.int (2 : Int32))] X1105 hx hby e0_311_2 rfl rfl ?_
                        refine own_kY 324 X1105 hx (hb hby at_314) rfl (feq (by decide : ¬ ((2 : Int32) = (1 : Int32)))).2 (by decide) (by decide) ?_
                        refine own_ru 327 [(.int (2 : Int32)), (.int (2 : Int32))] X1105 hx hby e0_324_2 rfl rfl ?_
                        refine own_kN 330 X1105 hx (hb hby at_327) rfl (teq (by decide : ((2 : Int32) = (2 : Int32)))).2 rfl ?_
                        refine own_rl 334 #[.val (.int i0), .val (.int i1), .val (.int i2), .val (.int i3), .val (.long i4), .second, .val (.int (2 : Int32)), .val (.int (1 : Int32)), .val (.long v27), .second, .val (.long v39), .second, .val (.long v51), .second, .val (.ref ob_919), .val (.ref ob_921), .val (.ref ob_923), .val (.ref ob_925), .val (.ref vc0), .val (.ref vc1), .val (.ref vc2), .val (.ref b1046), .val (.ref b1052), .val (.ref b1058), .val (.int (2 : Int32)), .val (.ref ob_921), .unset, .unset] [] X1105 hx hby e0_330_2 rfl rfl ?_
                        refine own_go 341 X1105 hx (hb hby at_334) (by decide) (by decide) ?_
                        refine own_nO X1105 hx hZ hown (wd92 hw) (wd93 hw) (wd94 hw) rfl 344 (hb hby at_341) rfl (by decide) (by decide) fun T1106 h1106 b1106 g1106 X1106 e1106 E1106 A1106 D1106 UN1106 => ?_
                        have ll1106 : @LT.lt Nat _ b1106 (Array.size h1106) := A1106.lt
                        have z1106 := E1106.1
                        have F1107 : fl14 Z h1106 b1106 .null := D1106 (Or.inr (wd102 hw)) (ty := (.object "java/util/List")) (by decide)
                        refine own_ru 351 [(.ref b1058), (.ref b1052), (.ref b1046), (.ref b1106), (.ref b1106)] X1106 hx hby e0_344_4 rfl rfl ?_
                        have f1108 := (((f1095.keep K1102 (allS (by omega) all0)).keep K1105 (allS (by omega) (allS (by omega) all0))).ext E1106)
                        have f1109 := (Exa.ext E1106 (Exa.keep (Exa.keep (Exa.keep G1086_0 K1094) K1102) K1105))
                        have f1110 := (Fld.ext E1106 (((G1086_2.keep K1094 (own_nS (by omega) (own_nS (by omega) nin0))).keep K1102 (own_nS (by omega) nin0)).keep K1105 (own_nS (by omega) (own_nS (by omega) nin0))))
                        have f1111 := (Fld.ext E1106 (((G1086_3.keep K1094 (own_nS (by omega) (own_nS (by omega) nin0))).keep K1102 (own_nS (by omega) nin0)).keep K1105 (own_nS (by omega) (own_nS (by omega) nin0))))
                        have f1112 := ((((G1086_4'.keep K1094 (own_nS (by omega) (own_nS (by omega) nin0))).keep K1102 (own_nS (by omega) nin0)).keep K1105 (own_nS (by omega) (own_nS (by omega) nin0))).ext E1106)
                        have f1113 := (Exa.ext E1106 (Exa.keep (Exa.keep G1094_0 K1102) K1105))
                        have f1114 := (Fld.ext E1106 ((G1094_2.keep K1102 (own_nS (by omega) nin0)).keep K1105 (own_nS (by omega) (own_nS (by omega) nin0))))
                        have f1115 := (Fld.ext E1106 ((G1094_3.keep K1102 (own_nS (by omega) nin0)).keep K1105 (own_nS (by omega) (own_nS (by omega) nin0))))
                        have f1116 := (((G1094_4'.keep K1102 (own_nS (by omega) nin0)).keep K1105 (own_nS (by omega) (own_nS (by omega) nin0))).ext E1106)
                        have f1117 := (Exa.ext E1106 G1105_0)
                        have f1118 := (Fld.ext E1106 G1105_2)
                        have f1119 := (Fld.ext E1106 G1105_3)
                        have f1120 := (G1105_4'.ext E1106)
                        have f1121 := (Exa.ext E1106 (Exa.keep (Exa.keep (Exa.keep (Exa.keep (Exa.keep (Exa.keep f1069 K1071) K1079) K1086) K1094) K1102) K1105))
                        have f1122 := (Exa.ext E1106 (Exa.keep (Exa.keep (Exa.keep (Exa.keep (Exa.keep f1077 K1079) K1086) K1094) K1102) K1105))
                        have f1123 := (Exa.ext E1106 (Exa.keep (Exa.keep (Exa.keep f1092 K1094) K1102) K1105))
                        have f1124 := (Exa.ext E1106 (Exa.keep (Exa.keep f1100 K1102) K1105))
                        have f1125 := (Exa.ext E1106 (Exa.keep f1103 K1105))
                        refine own_cN X1106 hx hZ hown rfl (wd95 hw) (wd96 hw) (by decide) (wd97 hw) (wd94 hw) (rm13t22 l Z a0 hw [] o_EXTRA_HIGH o_HIGH o_ZERO o_DEF kDEF o_pos cl_pos o_neg cl_neg b1106 b1046 b1052 b1058 ar_1071 kk_1071 ar_1079 kk_1079 ar_1102 kk_1102 ob_925 vc0 vc1 ob_919 ob_921 h1106 n0 (by omega) f1108 A A1106 F1107 f1109 f1110 f1111 f1112 f1113 f1114 f1115 f1116 f1117 f1118 f1119 f1120 f1121 f1122 f1123 f1124 f1125 (by omega) (by first | assumption | decide | omega) (by first | assumption | decide | omega) (by first | assumption | decide | omega) (by first | assumption | decide | omega) (by first | assumption | decide | omega) (by first | assumption | decide | omega)) e1106  [(.ref b1046), (.ref b1052), (.ref b1058)] [(.ref b1106)] 354 1 (hb hby at_351) rfl (by rw [hml]; rfl) rfl rfl (lenOf pd_13 rfl) rfl (by decide) fun v1126 T1126 Lc1126 X1126 hQ1126 => ?_
                        obtain ⟨vl_1126, ra_1126, kr_1126, vo0_1126, vo1_1126, rfl, N1126q, K1126, G1126_0, G1126_1, G1126_2, G1126_3, G1126_4, G1126_5, G1126_6, G1126_7⟩ := hQ1126
                        have N1126 := Fr.app N1105 N1126q
                        have z1126 := K1126.1
                        have lt1126_0 : @LT.lt Nat _ b1106 (Array.size T1126.heap) := G1126_0.lt
                        have lt1126_2 : @LT.lt Nat _ vl_1126 (Array.size T1126.heap) := G1126_2.lt
                        have lt1126_5 : @LT.lt Nat _ ra_1126 (Array.size T1126.heap) := G1126_5.lt
                        have lt1126_6 : @LT.lt Nat _ vo1_1126 (Array.size T1126.heap) := G1126_6.lt
                        refine own_rl 358 #[.val (.int i0), .val (.int i1), .val (.int i2), .val (.int i3), .val (.long i4), .second, .val (.int (2 : Int32)), .val (.int (1 : Int32)), .val (.long v27), .second, .val (.long v39), .second, .val (.long v51), .second, .val (.ref ob_919), .val (.ref ob_921), .val (.ref ob_923), .val (.ref ob_925), .val (.ref vc0), .val (.ref vc1), .val (.ref vc2), .val (.ref b1046), .val (.ref b1052), .val (.ref b1058), .val (.int (2 : Int32)), .val (.ref ob_921), .val (.ref b1106), .unset] [(.ref b1106)] X1126 hx hby e0_354_2 rfl rfl ?_
                        refine own_cV X1126 hx hZ hown (wd160 hw) (wd161 hw) (notFace_of_selects (args := #[]) (mvT hZ (wd163 hw))) (wd163 hw) (wd162 hw) (by decide) (wd164 hw) (wd94 hw) (rm21b2r l Z a0 hw [] b1106 vl_1126 ra_1126 kr_1126 [(.ref vo0_1126), (.ref vo1_1126), .null, .null, .null, .null, .null, .null, .null, .null] vo1_1126 ob_921 T1126.heap n0 (by omega) G1126_0 G1126_1 G1126_2 G1126_3 G1126_4 G1126_5 G1126_6 G1126_7 rfl) rfl G1126_0 [] [] 361 0 (hb hby at_358) rfl (by rw [hml]; rfl) rfl rfl (lenOf pd_14 rfl) rfl (by decide) fun v1127 T1127 Lc1127 X1127 hQ1127 => ?_
                        obtain ⟨rfl, N1127q, e1127⟩ := hQ1127
                        have N1127 := Fr.app N1126 N1127q
                        refine own_rl 365 #[.val (.int i0), .val (.int i1), .val (.int i2), .val (.int i3), .val (.long i4), .second, .val (.int (2 : Int32)), .val (.int (1 : Int32)), .val (.long v27), .second, .val (.long v39), .second, .val (.long v51), .second, .val (.ref ob_919), .val (.ref ob_921), .val (.ref ob_923), .val (.ref ob_925), .val (.ref vc0), .val (.ref vc1), .val (.ref vc2), .val (.ref b1046), .val (.ref b1052), .val (.ref b1058), .val (.int (2 : Int32)), .val (.ref ob_921), .val (.ref b1106), .val (.ref ob_921)] [(.ref ob_921)] X1127 hx hby e0_361_2 rfl rfl ?_
                        refine own_st 379 [] (fun t k => XS.ifnonnullYes X1127.here hx rfl (pc0 := 365) (pc' := 379) rfl (hb hby at_365) rfl (by decide) (by decide) k) ?_
                        refine own_ru 381 [(.ref ob_921)] X1127 hx hby e0_379_1 rfl rfl ?_
                        refine own_st 384 [] (fun t k => XS.ifnullNo X1127.here hx rfl (hb hby at_381) rfl k) ?_
                        refine own_ru 388 [(.ref ob_921), (.ref ob_921)] X1127 hx hby e0_384_2 rfl rfl ?_
                        have f1129 := (Exa.keep f1125 K1126)
                        refine own_cV X1127 hx hZ hown (wd169 hw) (wd170 hw) (notFace_of_selects (args := #[]) (mvT hZ (wd172 hw))) (wd172 hw) (wd171 hw) (by decide) (wd173 hw) (wd4 hw) (rm22 l Z a0 hw [] ob_921 T1126.heap n0 (by omega) ) e1127 f1129 [(.ref ob_921)] [] 391 0 (hb hby at_388) rfl (by rw [hml]; rfl) rfl rfl (lenOf pd_11 rfl) rfl (by decide) fun v1128 T1128 Lc1128 X1128 hQ1128 => ?_
                        obtain ⟨rfl, N1128q, e1128⟩ := hQ1128
                        have N1128 := Fr.app N1127 N1128q
                        refine own_iN 394 X1128 hx (hb hby at_391) rfl ((if0 _ _).trans (feq (by decide : ¬ ((1 : Int32) = (0 : Int32)))).1) rfl ?_
                        refine own_ru 395 [(.int (1 : Int32))] X1128 hx hby e0_394_1 rfl rfl ?_
                        refine own_go 399 X1128 hx (hb hby at_395) (by decide) (by decide) ?_
                        have hq1130 : Q0 Z o_EXTRA_HIGH o_HIGH o_ZERO o_DEF kDEF o_pos cl_pos o_neg cl_neg i0 i1 i2 i3 i4 h0 n0 (some (.int (nar .boolean (1 : Int32)))) T1126.heap _ := ⟨rfl, N1128⟩
                        exact own_retN X1128 hx hlk (t := .boolean) hrt (by simp) (hb hby at_399) e1128 hq1130 (by decide) (by decide)
                  · as_aux_lemma =>
                      refine own_nO XJ928 hx hZ hown (wd32 hw) (wd33 hw) (wd34 hw) eJ928 143 (hb hby at_140) rfl (by decide) (by decide) fun T1131 h1131 b1131 g1131 X1131 e1131 E1131 A1131 D1131 UN1131 => ?_
                      have ll1131 : @LT.lt Nat _ b1131 (Array.size h1131) := A1131.lt
                      have z1131 := E1131.1
                      have F1132 : fl5 Z h1131 b1131 (.int (0 : Int32)) := D1131 (Or.inl (wd52 hw)) (ty := .int) (by decide)
                      have F1133 : fl7 Z h1131 b1131 .null := D1131 (Or.inl (wd55 hw)) (ty := (.array (.object "java/lang/Object"))) (by decide)
                      have F1134 : fl6 Z h1131 b1131 (.int (0 : Int32)) := D1131 (Or.inl (wd68 hw)) (ty := .int) (by decide)
                      refine own_rl 144 #[.val (.int i0), .val (.int i1), .val (.int i2), .val (.int i3), .val (.long i4), .second, .val (.int (2 : Int32)), .val (.int (0 : Int32)), .val (.long v27), .second, .val (.long v39), .second, .val (.long v51), .second, .val (.ref ob_919), .val (.ref ob_921), .val (.ref ob_923), .val (.ref ob_925), .val (.ref vc0), .val (.ref vc1), .val (.ref vc2), .unset, .unset, .unset, .unset, .unset, .unset, .unset] [(.ref b1131), (.ref b1131)] X1131 hx hby e0_143_1 rfl rfl ?_
                      have f1135 := (FJ928_0.ext E1131)
                      refine own_cN X1131 hx hZ hown rfl (wd35 hw) (wd36 hw) (by decide) (wd37 hw) (wd34 hw) (rm5 l Z a0 hw [] o_EXTRA_HIGH o_HIGH o_ZERO o_DEF kDEF o_pos cl_pos o_neg cl_neg b1131 h1131 n0 (by omega) f1135 A A1131 F1132 F1134 F1133 (by omega)) e1131  [] [(.ref b1131)] 147 1 (hb hby at_144) rfl (by rw [hml]; rfl) rfl rfl (lenOf pd_0 rfl) rfl (by decide) fun v1136 T1136 Lc1136 X1136 hQ1136 => ?_
                      obtain ⟨rfl, N1136q, K1136, G1136_0, G1136_1, G1136_2, G1136_3⟩ := hQ1136
                      have N1136 := Fr.app NJ928 N1136q
                      have z1136 := K1136.1
                      have lt1136_0 : @LT.lt Nat _ b1131 (Array.size T1136.heap) := G1136_0.lt
                      refine own_rl 149 #[.val (.int i0), .val (.int i1), .val (.int i2), .val (.int i3), .val (.long i4), .second, .val (.int (2 : Int32)), .val (.int (0 : Int32)), .val (.long v27), .second, .val (.long v39), .second, .val (.long v51), .second, .val (.ref ob_919), .val (.ref ob_921), .val (.ref ob_923), .val (.ref ob_925), .val (.ref vc0), .val (.ref vc1), .val (.ref vc2), .val (.ref b1131), .unset, .unset, .unset, .unset, .unset, .unset] [] X1136 hx hby e0_147_1 rfl rfl ?_
                      refine own_nO X1136 hx hZ hown (wd32 hw) (wd33 hw) (wd34 hw) rfl 152 (hb hby at_149) rfl (by decide) (by decide) fun T1137 h1137 b1137 g1137 X1137 e1137 E1137 A1137 D1137 UN1137 => ?_
                      have ll1137 : @LT.lt Nat _ b1137 (Array.size h1137) := A1137.lt
                      have z1137 := E1137.1
                      have F1138 : fl5 Z h1137 b1137 (.int (0 : Int32)) := D1137 (Or.inl (wd52 hw)) (ty := .int) (by decide)
                      have F1139 : fl7 Z h1137 b1137 .null := D1137 (Or.inl (wd55 hw)) (ty := (.array (.object "java/lang/Object"))) (by decide)
                      have F1140 : fl6 Z h1137 b1137 (.int (0 : Int32)) := D1137 (Or.inl (wd68 hw)) (ty := .int) (by decide)
                      refine own_ru 153 [(.ref b1137), (.ref b1137)] X1137 hx hby e0_152_1 rfl rfl ?_
                      have f1141 := ((f1135.keep K1136 (allS (by omega) all0)).ext E1137)
                      refine own_cN X1137 hx hZ hown rfl (wd35 hw) (wd36 hw) (by decide) (wd37 hw) (wd34 hw) (rm5 l Z a0 hw [] o_EXTRA_HIGH o_HIGH o_ZERO o_DEF kDEF o_pos cl_pos o_neg cl_neg b1137 h1137 n0 (by omega) f1141 A A1137 F1138 F1140 F1139 (by omega)) e1137  [] [(.ref b1137)] 156 1 (hb hby at_153) rfl (by rw [hml]; rfl) rfl rfl (lenOf pd_0 rfl) rfl (by decide) fun v1142 T1142 Lc1142 X1142 hQ1142 => ?_
                      obtain ⟨rfl, N1142q, K1142, G1142_0, G1142_1, G1142_2, G1142_3⟩ := hQ1142
                      have N1142 := Fr.app N1136 N1142q
                      have z1142 := K1142.1
                      have lt1142_0 : @LT.lt Nat _ b1137 (Array.size T1142.heap) := G1142_0.lt
                      refine own_rl 158 #[.val (.int i0), .val (.int i1), .val (.int i2), .val (.int i3), .val (.long i4), .second, .val (.int (2 : Int32)), .val (.int (0 : Int32)), .val (.long v27), .second, .val (.long v39), .second, .val (.long v51), .second, .val (.ref ob_919), .val (.ref ob_921), .val (.ref ob_923), .val (.ref ob_925), .val (.ref vc0), .val (.ref vc1), .val (.ref vc2), .val (.ref b1131), .val (.ref b1137), .unset, .unset, .unset, .unset, .unset] [] X1142 hx hby e0_156_1 rfl rfl ?_
                      refine own_nO X1142 hx hZ hown (wd32 hw) (wd33 hw) (wd34 hw) rfl 161 (hb hby at_158) rfl (by decide) (by decide) fun T1143 h1143 b1143 g1143 X1143 e1143 E1143 A1143 D1143 UN1143 => ?_
                      have ll1143 : @LT.lt Nat _ b1143 (Array.size h1143) := A1143.lt
                      have z1143 := E1143.1
                      have F1144 : fl5 Z h1143 b1143 (.int (0 : Int32)) := D1143 (Or.inl (wd52 hw)) (ty := .int) (by decide)
                      have F1145 : fl7 Z h1143 b1143 .null := D1143 (Or.inl (wd55 hw)) (ty := (.array (.object "java/lang/Object"))) (by decide)
                      have F1146 : fl6 Z h1143 b1143 (.int (0 : Int32)) := D1143 (Or.inl (wd68 hw)) (ty := .int) (by decide)
                      refine own_ru 162 [(.ref b1143), (.ref b1143)] X1143 hx hby e0_161_1 rfl rfl ?_
                      have f1147 := ((f1141.keep K1142 (allS (by omega) all0)).ext E1143)
                      refine own_cN X1143 hx hZ hown rfl (wd35 hw) (wd36 hw) (by decide) (wd37 hw) (wd34 hw) (rm5 l Z a0 hw [] o_EXTRA_HIGH o_HIGH o_ZERO o_DEF kDEF o_pos cl_pos o_neg cl_neg b1143 h1143 n0 (by omega) f1147 A A1143 F1144 F1146 F1145 (by omega)) e1143  [] [(.ref b1143)] 165 1 (hb hby at_162) rfl (by rw [hml]; rfl) rfl rfl (lenOf pd_0 rfl) rfl (by decide) fun v1148 T1148 Lc1148 X1148 hQ1148 => ?_
                      obtain ⟨rfl, N1148q, K1148, G1148_0, G1148_1, G1148_2, G1148_3⟩ := hQ1148
                      have N1148 := Fr.app N1142 N1148q
                      have z1148 := K1148.1
                      have lt1148_0 : @LT.lt Nat _ b1143 (Array.size T1148.heap) := G1148_0.lt
                      refine own_rl 171 #[.val (.int i0), .val (.int i1), .val (.int i2), .val (.int i3), .val (.long i4), .second, .val (.int (2 : Int32)), .val (.int (0 : Int32)), .val (.long v27), .second, .val (.long v39), .second, .val (.long v51), .second, .val (.ref ob_919), .val (.ref ob_921), .val (.ref ob_923), .val (.ref ob_925), .val (.ref vc0), .val (.ref vc1), .val (.ref vc2), .val (.ref b1131), .val (.ref b1137), .val (.ref b1143), .unset, .unset, .unset, .unset] [(.ref ob_925), (.ref b1131)] X1148 hx hby e0_165_3 rfl rfl ?_
                      have f1149 := (f1147.keep K1148 (allS (by omega) all0))
                      have f1150 := (Exa.keep (Exa.ext E1143 (Exa.keep (Exa.ext E1137 G1136_0) K1142)) K1148)
                      have f1151 := ((Fld.ext E1143 ((Fld.ext E1137 G1136_1).keep K1142 (own_nS (by omega) nin0))).keep K1148 (own_nS (by omega) nin0))
                      have f1152 := ((Fld.ext E1143 ((Fld.ext E1137 G1136_2).keep K1142 (own_nS (by omega) nin0))).keep K1148 (own_nS (by omega) nin0))
                      have f1153 := ((Fld.ext E1143 ((Fld.ext E1137 G1136_3).keep K1142 (own_nS (by omega) nin0))).keep K1148 (own_nS (by omega) nin0))
                      have f1154 := (Exa.keep (Exa.ext E1143 (Exa.keep (Exa.ext E1137 (Exa.keep (Exa.ext E1131 FJ928_4) K1136)) K1142)) K1148)
                      have f1155 : Ins Z T1148.heap ob_925 "java/lang/Object" true := (Ins.of_exa f1154 (wd90 hw))
                      refine own_cI X1148 hx hZ hown (wd56 hw) (wd57 hw) (mvT hZ (wd58 hw)) (wd59 hw) (wd60 hw) (wd61 hw) (wd62 hw) (wd63 hw) (by decide) (wd64 hw) (wd34 hw) (rm8z l Z a0 hw [] o_EXTRA_HIGH o_HIGH o_ZERO o_DEF kDEF o_pos cl_pos o_neg cl_neg b1131 ob_925 (0 : Int32) T1148.heap n0 (by omega) f1149 A f1150 f1151 f1152 f1153 f1155 (by omega)) rfl f1150 [(.ref ob_925)] [] 176 0 (hb hby at_171) rfl (by rw [hml]; rfl) rfl rfl (lenOf pd_11 rfl) rfl (by decide) fun v1156 T1156 Lc1156 X1156 hQ1156 => ?_
                      obtain ⟨ar_1156, kk_1156, rfl, N1156q, K1156, G1156_0, G1156_1, G1156_2, G1156_3, G1156_4, U1156_0, U1156_1⟩ := hQ1156
                      have N1156 := Fr.app N1148 N1156q
                      have z1156 := K1156.1
                      have lt1156_0 : @LT.lt Nat _ b1131 (Array.size T1156.heap) := G1156_0.lt
                      have G1156_1' : fl5 Z T1156.heap b1131 (.int (1 : Int32)) := G1156_1
                      have lt1156_4 : @LT.lt Nat _ ar_1156 (Array.size T1156.heap) := G1156_4.lt
                      refine own_ru 181 [(.ref vc0), (.ref b1137)] X1156 hx hby e0_176_3 rfl rfl ?_
                      have f1157 := (f1149.keep K1156 (allS (by omega) all0))
                      have f1158 := (Exa.keep (Exa.keep (Exa.ext E1143 G1142_0) K1148) K1156)
                      have f1159 := (((Fld.ext E1143 G1142_1).keep K1148 (own_nS (by omega) nin0)).keep K1156 (own_nS (by omega) nin0))
                      have f1160 := (((Fld.ext E1143 G1142_2).keep K1148 (own_nS (by omega) nin0)).keep K1156 (own_nS (by omega) nin0))
                      have f1161 := (((Fld.ext E1143 G1142_3).keep K1148 (own_nS (by omega) nin0)).keep K1156 (own_nS (by omega) nin0))
                      have f1162 := (Exa.keep (Exa.keep (Exa.ext E1143 (Exa.keep (Exa.ext E1137 (Exa.keep (Exa.ext E1131 FJ928_5) K1136)) K1142)) K1148) K1156)
                      have f1163 : Ins Z T1156.heap vc0 "java/lang/Object" true := (Ins.of_exa f1162 (wd91 hw))
                      refine own_cI X1156 hx hZ hown (wd56 hw) (wd57 hw) (mvT hZ (wd58 hw)) (wd59 hw) (wd60 hw) (wd61 hw) (wd62 hw) (wd63 hw) (by decide) (wd64 hw) (wd34 hw) (rm8z l Z a0 hw [] o_EXTRA_HIGH o_HIGH o_ZERO o_DEF kDEF o_pos cl_pos o_neg cl_neg b1137 vc0 (0 : Int32) T1156.heap n0 (by omega) f1157 A f1158 f1159 f1160 f1161 f1163 (by omega)) rfl f1158 [(.ref vc0)] [] 186 0 (hb hby at_181) rfl (by rw [hml]; rfl) rfl rfl (lenOf pd_11 rfl) rfl (by decide) fun v1164 T1164 Lc1164 X1164 hQ1164 => ?_
                      obtain ⟨ar_1164, kk_1164, rfl, N1164q, K1164, G1164_0, G1164_1, G1164_2, G1164_3, G1164_4, U1164_0, U1164_1⟩ := hQ1164
                      have N1164 := Fr.app N1156 N1164q
                      have z1164 := K1164.1
                      have lt1164_0 : @LT.lt Nat _ b1137 (Array.size T1164.heap) := G1164_0.lt
                      have G1164_1' : fl5 Z T1164.heap b1137 (.int (1 : Int32)) := G1164_1
                      have lt1164_4 : @LT.lt Nat _ ar_1164 (Array.size T1164.heap) := G1164_4.lt
                      refine own_ru 190 [(.int (2 : Int32)), (.int (2 : Int32))] X1164 hx hby e0_186_3 rfl rfl ?_
                      refine own_kN 193 X1164 hx (hb hby at_190) rfl (flt (by decide : ¬ ((2 : Int32) < (2 : Int32)))).1 rfl ?_
                      refine own_ru 197 [(.ref ob_925), (.ref b1131)] X1164 hx hby e0_193_2 rfl rfl ?_
                      have f1165 := (Exa.keep G1156_0 K1164)
                      have f1166 := (G1156_1'.keep K1164 (own_nS (by omega) nin0))
                      have f1167 := (G1156_2.keep K1164 (own_nS (by omega) nin0))
                      have f1168 := (G1156_3.keep K1164 (own_nS (by omega) nin0))
                      have f1169 := (G1156_4.keep K1164 (own_nS (by omega) nin0))
                      have f1170 := (own_insKeep (own_insKeep f1155 K1156) K1164)
                      refine own_cI X1164 hx hZ hown (wd56 hw) (wd57 hw) (mvT hZ (wd58 hw)) (wd59 hw) (wd60 hw) (wd61 hw) (wd62 hw) (wd63 hw) (by decide) (wd64 hw) (wd34 hw) (rm8s1 l Z a0 hw [] b1131 ob_925 (1 : Int32) ar_1156 kk_1156 [(.ref ob_925), .null, .null, .null, .null, .null, .null, .null, .null, .null] T1164.heap n0 (by omega) f1165 f1166 f1167 f1168 f1169 f1170 (by omega) (by omega) rfl U1156_0 (by first | assumption | decide | omega)) rfl f1165 [(.ref ob_925)] [] 202 0 (hb hby at_197) rfl (by rw [hml]; rfl) rfl rfl (lenOf pd_11 rfl) rfl (by decide) fun v1171 T1171 Lc1171 X1171 hQ1171 => ?_
                      obtain ⟨rfl, N1171q, K1171, G1171_0, G1171_1, G1171_2, G1171_3, G1171_4⟩ := hQ1171
                      have N1171 := Fr.app N1164 N1171q
                      have z1171 := K1171.1
                      have lt1171_0 : @LT.lt Nat _ b1131 (Array.size T1171.heap) := G1171_0.lt
                      have G1171_1' : fl5 Z T1171.heap b1131 (.int (2 : Int32)) := G1171_1
                      have G1171_4' : Arv Z T1171.heap ar_1156 kk_1156 (.object "java/lang/Object") (10 : Int32) [(.ref ob_925), (.ref ob_925), .null, .null, .null, .null, .null, .null, .null, .null] .null := G1171_4
                      have lt1171_4 : @LT.lt Nat _ ar_1156 (Array.size T1171.heap) := G1171_4.lt
                      refine own_ru 207 [(.ref vc1), (.ref b1137)] X1171 hx hby e0_202_3 rfl rfl ?_
                      have f1172 := (Exa.keep G1164_0 K1171)
                      have f1173 := (G1164_1'.keep K1171 (own_nS (by omega) (own_nS (by omega) nin0)))
                      have f1174 := (G1164_2.keep K1171 (own_nS (by omega) (own_nS (by omega) nin0)))
                      have f1175 := (G1164_3.keep K1171 (own_nS (by omega) (own_nS (by omega) nin0)))
                      have f1176 := (G1164_4.keep K1171 (own_nS (by omega) (own_nS (by omega) nin0)))
                      have f1177 := (Exa.keep (Exa.keep (Exa.keep (Exa.keep (Exa.ext E1143 (Exa.keep (Exa.ext E1137 (Exa.keep (Exa.ext E1131 FJ928_6) K1136)) K1142)) K1148) K1156) K1164) K1171)
                      have f1178 : Ins Z T1171.heap vc1 "java/lang/Object" true := (Ins.of_exa f1177 (wd91 hw))
                      refine own_cI X1171 hx hZ hown (wd56 hw) (wd57 hw) (mvT hZ (wd58 hw)) (wd59 hw) (wd60 hw) (wd61 hw) (wd62 hw) (wd63 hw) (by decide) (wd64 hw) (wd34 hw) (rm8s1 l Z a0 hw [] b1137 vc1 (1 : Int32) ar_1164 kk_1164 [(.ref vc0), .null, .null, .null, .null, .null, .null, .null, .null, .null] T1171.heap n0 (by omega) f1172 f1173 f1174 f1175 f1176 f1178 (by omega) (by omega) rfl U1164_0 (by first | assumption | decide | omega)) rfl f1172 [(.ref vc1)] [] 212 0 (hb hby at_207) rfl (by rw [hml]; rfl) rfl rfl (lenOf pd_11 rfl) rfl (by decide) fun v1179 T1179 Lc1179 X1179 hQ1179 => ?_
                      obtain ⟨rfl, N1179q, K1179, G1179_0, G1179_1, G1179_2, G1179_3, G1179_4⟩ := hQ1179
                      have N1179 := Fr.app N1171 N1179q
                      have z1179 := K1179.1
                      have lt1179_0 : @LT.lt Nat _ b1137 (Array.size T1179.heap) := G1179_0.lt
                      have G1179_1' : fl5 Z T1179.heap b1137 (.int (2 : Int32)) := G1179_1
                      have G1179_4' : Arv Z T1179.heap ar_1164 kk_1164 (.object "java/lang/Object") (10 : Int32) [(.ref vc0), (.ref vc1), .null, .null, .null, .null, .null, .null, .null, .null] .null := G1179_4
                      have lt1179_4 : @LT.lt Nat _ ar_1164 (Array.size T1179.heap) := G1179_4.lt
                      refine own_ru 216 [(.int (3 : Int32)), (.int (2 : Int32))] X1179 hx hby e0_212_3 rfl rfl ?_
                      refine own_kY 239 X1179 hx (hb hby at_216) rfl (tlt (by decide : ((2 : Int32) < (3 : Int32)))).1 (by decide) (by decide) ?_
                      refine own_ru 241 [(.int (0 : Int32))] X1179 hx hby e0_239_1 rfl rfl ?_
                      refine own_iY 249 X1179 hx (hb hby at_241) rfl ((if0 _ _).trans (teq (by decide : ((0 : Int32) = (0 : Int32)))).1) (by decide) (by decide) ?_
                      refine own_rl 258 #[.val (.int i0), .val (.int i1), .val (.int i2), .val (.int i3), .val (.long i4), .second, .val (.int (2 : Int32)), .val (.int (0 : Int32)), .val (.long v27), .second, .val (.long v39), .second, .val (.long v51), .second, .val (.ref ob_919), .val (.ref ob_921), .val (.ref ob_923), .val (.ref ob_925), .val (.ref vc0), .val (.ref vc1), .val (.ref vc2), .val (.ref b1131), .val (.ref b1137), .val (.ref b1143), .val (.int (1 : Int32)), .unset, .unset, .unset] [(.int (1 : Int32)), (.int (1 : Int32))] X1179 hx hby e0_249_6 rfl rfl ?_
                      refine own_kN 261 X1179 hx (hb hby at_258) rfl (flt (by decide : ¬ ((1 : Int32) < (1 : Int32)))).1 rfl ?_
                      refine own_ru 265 [(.ref ob_919), (.ref b1143)] X1179 hx hby e0_261_2 rfl rfl ?_
                      have f1180 := (((f1157.keep K1164 (allS (by omega) all0)).keep K1171 (allS (by omega) (allS (by omega) all0))).keep K1179 (allS (by omega) (allS (by omega) all0)))
                      have f1181 := (Exa.keep (Exa.keep (Exa.keep (Exa.keep G1148_0 K1156) K1164) K1171) K1179)
                      have f1182 := ((((G1148_1.keep K1156 (own_nS (by omega) nin0)).keep K1164 (own_nS (by omega) nin0)).keep K1171 (own_nS (by omega) (own_nS (by omega) nin0))).keep K1179 (own_nS (by omega) (own_nS (by omega) nin0)))
                      have f1183 := ((((G1148_2.keep K1156 (own_nS (by omega) nin0)).keep K1164 (own_nS (by omega) nin0)).keep K1171 (own_nS (by omega) (own_nS (by omega) nin0))).keep K1179 (own_nS (by omega) (own_nS (by omega) nin0)))
                      have f1184 := ((((G1148_3.keep K1156 (own_nS (by omega) nin0)).keep K1164 (own_nS (by omega) nin0)).keep K1171 (own_nS (by omega) (own_nS (by omega) nin0))).keep K1179 (own_nS (by omega) (own_nS (by omega) nin0)))
                      have f1185 := (Exa.keep (Exa.keep (Exa.keep (Exa.keep (Exa.keep (Exa.ext E1143 (Exa.keep (Exa.ext E1137 (Exa.keep (Exa.ext E1131 FJ928_1) K1136)) K1142)) K1148) K1156) K1164) K1171) K1179)
                      have f1186 : Ins Z T1179.heap ob_919 "java/lang/Object" true := (Ins.of_exa f1185 (wd90 hw))
                      refine own_cI X1179 hx hZ hown (wd56 hw) (wd57 hw) (mvT hZ (wd58 hw)) (wd59 hw) (wd60 hw) (wd61 hw) (wd62 hw) (wd63 hw) (by decide) (wd64 hw) (wd34 hw) (rm8z l Z a0 hw [] o_EXTRA_HIGH o_HIGH o_ZERO o_DEF kDEF o_pos cl_pos o_neg cl_neg b1143 ob_919 (0 : Int32) T1179.heap n0 (by omega) f1180 A f1181 f1182 f1183 f1184 f1186 (by omega)) rfl f1181 [(.ref ob_919)] [] 270 0 (hb hby at_265) rfl (by rw [hml]; rfl) rfl rfl (lenOf pd_11 rfl) rfl (by decide) fun v1187 T1187 Lc1187 X1187 hQ1187 => ?_
                      obtain ⟨ar_1187, kk_1187, rfl, N1187q, K1187, G1187_0, G1187_1, G1187_2, G1187_3, G1187_4, U1187_0, U1187_1⟩ := hQ1187
                      have N1187 := Fr.app N1179 N1187q
                      have z1187 := K1187.1
                      have lt1187_0 : @LT.lt Nat _ b1143 (Array.size T1187.heap) := G1187_0.lt
                      have G1187_1' : fl5 Z T1187.heap b1143 (.int (1 : Int32)) := G1187_1
                      have lt1187_4 : @LT.lt Nat _ ar_1187 (Array.size T1187.heap) := G1187_4.lt
                      refine own_ru 274 [(.int (2 : Int32)), (.int (1 : Int32))] X1187 hx hby e0_270_3 rfl rfl ?_
                      refine own_kY 287 X1187 hx (hb hby at_274) rfl (tlt (by decide : ((1 : Int32) < (2 : Int32)))).1 (by decide) (by decide) ?_
                      refine own_ru 290 [(.int (3 : Int32)), (.int (1 : Int32))] X1187 hx hby e0_287_2 rfl rfl ?_
                      refine own_kY 303 X1187 hx (hb hby at_290) rfl (tlt (by decide : ((1 : Int32) < (3 : Int32)))).1 (by decide) (by decide) ?_
                      refine own_rl 308 #[.val (.int i0), .val (.int i1), .val (.int i2), .val (.int i3), .val (.long i4), .second, .val (.int (2 : Int32)), .val (.int (0 : Int32)), .val (.long v27), .second, .val (.long v39), .second, .val (.long v51), .second, .val (.ref ob_919), .val (.ref ob_921), .val (.ref ob_923), .val (.ref ob_925), .val (.ref vc0), .val (.ref vc1), .val (.ref vc2), .val (.ref b1131), .val (.ref b1137), .val (.ref b1143), .val (.int (1 : Int32)), .val .null, .unset, .unset] [(.int (0 : Int32))] X1187 hx hby e0_303_3 rfl rfl ?_
                      refine own_iY 341 X1187 hx (hb hby at_308) rfl ((if0 _ _).trans (teq (by decide : ((0 : Int32) = (0 : Int32)))).1) (by decide) (by decide) ?_
                      refine own_nO X1187 hx hZ hown (wd92 hw) (wd93 hw) (wd94 hw) rfl 344 (hb hby at_341) rfl (by decide) (by decide) fun T1188 h1188 b1188 g1188 X1188 e1188 E1188 A1188 D1188 UN1188 => ?_
                      have ll1188 : @LT.lt Nat _ b1188 (Array.size h1188) := A1188.lt
                      have z1188 := E1188.1
                      have F1189 : fl14 Z h1188 b1188 .null := D1188 (Or.inr (wd102 hw)) (ty := (.object "java/util/List")) (by decide)
                      refine own_ru 347 [(.ref b1131), (.ref b1188), (.ref b1188)] X1188 hx hby e0_344_2 rfl rfl ?_
                      as_aux_lemma =>
                        refine own_ru 351 [(.ref b1143), (.ref b1137), (.ref b1131), (.ref b1188), (.ref b1188)] X1188 hx hby e0_347_2 rfl rfl ?_
                        have f1190 := ((f1180.keep K1187 (allS (by omega) all0)).ext E1188)
                        have f1191 := (Exa.ext E1188 (Exa.keep (Exa.keep G1171_0 K1179) K1187))
                        have f1192 := (Fld.ext E1188 ((G1171_2.keep K1179 (own_nS (by omega) (own_nS (by omega) nin0))).keep K1187 (own_nS (by omega) nin0)))
                        have f1193 := (Fld.ext E1188 ((G1171_3.keep K1179 (own_nS (by omega) (own_nS (by omega) nin0))).keep K1187 (own_nS (by omega) nin0)))
                        have f1194 := (((G1171_4'.keep K1179 (own_nS (by omega) (own_nS (by omega) nin0))).keep K1187 (own_nS (by omega) nin0)).ext E1188)
                        have f1195 := (Exa.ext E1188 (Exa.keep G1179_0 K1187))
                        have f1196 := (Fld.ext E1188 (G1179_2.keep K1187 (own_nS (by omega) nin0)))
                        have f1197 := (Fld.ext E1188 (G1179_3.keep K1187 (own_nS (by omega) nin0)))
                        have f1198 := ((G1179_4'.keep K1187 (own_nS (by omega) nin0)).ext E1188)
                        have f1199 := (Exa.ext E1188 G1187_0)
                        have f1200 := (Fld.ext E1188 G1187_2)
                        have f1201 := (Fld.ext E1188 G1187_3)
                        have f1202 := (G1187_4.ext E1188)
                        have f1203 := (Exa.ext E1188 (Exa.keep (Exa.keep (Exa.keep (Exa.keep (Exa.keep f1154 K1156) K1164) K1171) K1179) K1187))
                        have f1204 := (Exa.ext E1188 (Exa.keep (Exa.keep (Exa.keep (Exa.keep f1162 K1164) K1171) K1179) K1187))
                        have f1205 := (Exa.ext E1188 (Exa.keep (Exa.keep f1177 K1179) K1187))
                        have f1206 := (Exa.ext E1188 (Exa.keep f1185 K1187))
                        refine own_cN X1188 hx hZ hown rfl (wd95 hw) (wd96 hw) (by decide) (wd97 hw) (wd94 hw) (rm13t21 l Z a0 hw [] o_EXTRA_HIGH o_HIGH o_ZERO o_DEF kDEF o_pos cl_pos o_neg cl_neg b1188 b1131 b1137 b1143 ar_1156 kk_1156 ar_1164 kk_1164 ar_1187 kk_1187 ob_925 vc0 vc1 ob_919 h1188 n0 (by omega) f1190 A A1188 F1189 f1191 f1192 f1193 f1194 f1195 f1196 f1197 f1198 f1199 f1200 f1201 f1202 f1203 f1204 f1205 f1206 (by omega) (by first | assumption | decide | omega) (by first | assumption | decide | omega) (by first | assumption | decide | omega) (by first | assumption | decide | omega) (by first | assumption | decide | omega) (by first | assumption | decide | omega)) e1188  [(.ref b1131), (.ref b1137), (.ref b1143)] [(.ref b1188)] 354 1 (hb hby at_351) rfl (by rw [hml]; rfl) rfl rfl (lenOf pd_13 rfl) rfl (by decide) fun v1207 T1207 Lc1207 X1207 hQ1207 => ?_
                        obtain ⟨vl_1207, ra_1207, kr_1207, vo0_1207, vo1_1207, rfl, N1207q, K1207, G1207_0, G1207_1, G1207_2, G1207_3, G1207_4, G1207_5, G1207_6, G1207_7⟩ := hQ1207
                        have N1207 := Fr.app N1187 N1207q
                        have z1207 := K1207.1
                        have lt1207_0 : @LT.lt Nat _ b1188 (Array.size T1207.heap) := G1207_0.lt
                        have lt1207_2 : @LT.lt Nat _ vl_1207 (Array.size T1207.heap) := G1207_2.lt
                        have lt1207_5 : @LT.lt Nat _ ra_1207 (Array.size T1207.heap) := G1207_5.lt
                        have lt1207_6 : @LT.lt Nat _ vo1_1207 (Array.size T1207.heap) := G1207_6.lt
                        refine own_rl 358 #[.val (.int i0), .val (.int i1), .val (.int i2), .val (.int i3), .val (.long i4), .second, .val (.int (2 : Int32)), .val (.int (0 : Int32)), .val (.long v27), .second, .val (.long v39), .second, .val (.long v51), .second, .val (.ref ob_919), .val (.ref ob_921), .val (.ref ob_923), .val (.ref ob_925), .val (.ref vc0), .val (.ref vc1), .val (.ref vc2), .val (.ref b1131), .val (.ref b1137), .val (.ref b1143), .val (.int (1 : Int32)), .val .null, .val (.ref b1188), .unset] [(.ref b1188)] X1207 hx hby e0_354_2 rfl rfl ?_
                        refine own_cV X1207 hx hZ hown (wd160 hw) (wd161 hw) (notFace_of_selects (args := #[]) (mvT hZ (wd163 hw))) (wd163 hw) (wd162 hw) (by decide) (wd164 hw) (wd94 hw) (rm21b2n l Z a0 hw [] b1188 vl_1207 ra_1207 kr_1207 [(.ref vo0_1207), (.ref vo1_1207), .null, .null, .null, .null, .null, .null, .null, .null] vo1_1207 T1207.heap n0 (by omega) G1207_0 G1207_1 G1207_2 G1207_3 G1207_4 G1207_5 G1207_6 G1207_7 rfl) rfl G1207_0 [] [] 361 0 (hb hby at_358) rfl (by rw [hml]; rfl) rfl rfl (lenOf pd_14 rfl) rfl (by decide) fun v1208 T1208 Lc1208 X1208 hQ1208 => ?_
                        obtain ⟨rfl, N1208q, e1208⟩ := hQ1208
                        have N1208 := Fr.app N1207 N1208q
                        refine own_rl 365 #[.val (.int i0), .val (.int i1), .val (.int i2), .val (.int i3), .val (.long i4), .second, .val (.int (2 : Int32)), .val (.int (0 : Int32)), .val (.long v27), .second, .val (.long v39), .second, .val (.long v51), .second, .val (.ref ob_919), .val (.ref ob_921), .val (.ref ob_923), .val (.ref ob_925), .val (.ref vc0), .val (.ref vc1), .val (.ref vc2), .val (.ref b1131), .val (.ref b1137), .val (.ref b1143), .val (.int (1 : Int32)), .val .null, .val (.ref b1188), .val .null] [.null] X1208 hx hby e0_361_2 rfl rfl ?_
                        refine own_st 368 [] (fun t k => XS.ifnonnullNo X1208.here hx rfl (hb hby at_365) rfl k) ?_
                        refine own_ru 370 [.null] X1208 hx hby e0_368_1 rfl rfl ?_
                        refine own_st 373 [] (fun t k => XS.ifnonnullNo X1208.here hx rfl (hb hby at_370) rfl k) ?_
                        refine own_ru 374 [(.int (1 : Int32))] X1208 hx hby e0_373_1 rfl rfl ?_
                        refine own_go 378 X1208 hx (hb hby at_374) (by decide) (by decide) ?_
                        have hq1209 : Q0 Z o_EXTRA_HIGH o_HIGH o_ZERO o_DEF kDEF o_pos cl_pos o_neg cl_neg i0 i1 i2 i3 i4 h0 n0 (some (.int (nar .boolean (1 : Int32)))) T1207.heap _ := ⟨rfl, N1208⟩
                        exact own_retN X1208 hx hlk (t := .boolean) hrt (by simp) (hb hby at_378) e1208 hq1209 (by decide) (by decide)
                  · as_aux_lemma =>
                      refine own_nO XJ928 hx hZ hown (wd32 hw) (wd33 hw) (wd34 hw) eJ928 143 (hb hby at_140) rfl (by decide) (by decide) fun T1210 h1210 b1210 g1210 X1210 e1210 E1210 A1210 D1210 UN1210 => ?_
                      have ll1210 : @LT.lt Nat _ b1210 (Array.size h1210) := A1210.lt
                      have z1210 := E1210.1
                      have F1211 : fl5 Z h1210 b1210 (.int (0 : Int32)) := D1210 (Or.inl (wd52 hw)) (ty := .int) (by decide)
                      have F1212 : fl7 Z h1210 b1210 .null := D1210 (Or.inl (wd55 hw)) (ty := (.array (.object "java/lang/Object"))) (by decide)
                      have F1213 : fl6 Z h1210 b1210 (.int (0 : Int32)) := D1210 (Or.inl (wd68 hw)) (ty := .int) (by decide)
                      refine own_rl 144 #[.val (.int i0), .val (.int i1), .val (.int i2), .val (.int i3), .val (.long i4), .second, .val (.int (3 : Int32)), .val (.int (1 : Int32)), .val (.long v27), .second, .val (.long v39), .second, .val (.long v51), .second, .val (.ref ob_919), .val (.ref ob_921), .val (.ref ob_923), .val (.ref ob_925), .val (.ref vc0), .val (.ref vc1), .val (.ref vc2), .unset, .unset, .unset, .unset, .unset, .unset, .unset] [(.ref b1210), (.ref b1210)] X1210 hx hby e0_143_1 rfl rfl ?_
                      have f1214 := (FJ928_0.ext E1210)
                      refine own_cN X1210 hx hZ hown rfl (wd35 hw) (wd36 hw) (by decide) (wd37 hw) (wd34 hw) (rm5 l Z a0 hw [] o_EXTRA_HIGH o_HIGH o_ZERO o_DEF kDEF o_pos cl_pos o_neg cl_neg b1210 h1210 n0 (by omega) f1214 A A1210 F1211 F1213 F1212 (by omega)) e1210  [] [(.ref b1210)] 147 1 (hb hby at_144) rfl (by rw [hml]; rfl) rfl rfl (lenOf pd_0 rfl) rfl (by decide) fun v1215 T1215 Lc1215 X1215 hQ1215 => ?_
                      obtain ⟨rfl, N1215q, K1215, G1215_0, G1215_1, G1215_2, G1215_3⟩ := hQ1215
                      have N1215 := Fr.app NJ928 N1215q
                      have z1215 := K1215.1
                      have lt1215_0 : @LT.lt Nat _ b1210 (Array.size T1215.heap) := G1215_0.lt
                      refine own_rl 149 #[.val (.int i0), .val (.int i1), .val (.int i2), .val (.int i3), .val (.long i4), .second, .val (.int (3 : Int32)), .val (.int (1 : Int32)), .val (.long v27), .second, .val (.long v39), .second, .val (.long v51), .second, .val (.ref ob_919), .val (.ref ob_921), .val (.ref ob_923), .val (.ref ob_925), .val (.ref vc0), .val (.ref vc1), .val (.ref vc2), .val (.ref b1210), .unset, .unset, .unset, .unset, .unset, .unset] [] X1215 hx hby e0_147_1 rfl rfl ?_
                      refine own_nO X1215 hx hZ hown (wd32 hw) (wd33 hw) (wd34 hw) rfl 152 (hb hby at_149) rfl (by decide) (by decide) fun T1216 h1216 b1216 g1216 X1216 e1216 E1216 A1216 D1216 UN1216 => ?_
                      have ll1216 : @LT.lt Nat _ b1216 (Array.size h1216) := A1216.lt
                      have z1216 := E1216.1
                      have F1217 : fl5 Z h1216 b1216 (.int (0 : Int32)) := D1216 (Or.inl (wd52 hw)) (ty := .int) (by decide)
                      have F1218 : fl7 Z h1216 b1216 .null := D1216 (Or.inl (wd55 hw)) (ty := (.array (.object "java/lang/Object"))) (by decide)
                      have F1219 : fl6 Z h1216 b1216 (.int (0 : Int32)) := D1216 (Or.inl (wd68 hw)) (ty := .int) (by decide)
                      refine own_ru 153 [(.ref b1216), (.ref b1216)] X1216 hx hby e0_152_1 rfl rfl ?_
                      have f1220 := ((f1214.keep K1215 (allS (by omega) all0)).ext E1216)
                      refine own_cN X1216 hx hZ hown rfl (wd35 hw) (wd36 hw) (by decide) (wd37 hw) (wd34 hw) (rm5 l Z a0 hw [] o_EXTRA_HIGH o_HIGH o_ZERO o_DEF kDEF o_pos cl_pos o_neg cl_neg b1216 h1216 n0 (by omega) f1220 A A1216 F1217 F1219 F1218 (by omega)) e1216  [] [(.ref b1216)] 156 1 (hb hby at_153) rfl (by rw [hml]; rfl) rfl rfl (lenOf pd_0 rfl) rfl (by decide) fun v1221 T1221 Lc1221 X1221 hQ1221 => ?_
                      obtain ⟨rfl, N1221q, K1221, G1221_0, G1221_1, G1221_2, G1221_3⟩ := hQ1221
                      have N1221 := Fr.app N1215 N1221q
                      have z1221 := K1221.1
                      have lt1221_0 : @LT.lt Nat _ b1216 (Array.size T1221.heap) := G1221_0.lt
                      refine own_rl 158 #[.val (.int i0), .val (.int i1), .val (.int i2), .val (.int i3), .val (.long i4), .second, .val (.int (3 : Int32)), .val (.int (1 : Int32)), .val (.long v27), .second, .val (.long v39), .second, .val (.long v51), .second, .val (.ref ob_919), .val (.ref ob_921), .val (.ref ob_923), .val (.ref ob_925), .val (.ref vc0), .val (.ref vc1), .val (.ref vc2), .val (.ref b1210), .val (.ref b1216), .unset, .unset, .unset, .unset, .unset] [] X1221 hx hby e0_156_1 rfl rfl ?_
                      refine own_nO X1221 hx hZ hown (wd32 hw) (wd33 hw) (wd34 hw) rfl 161 (hb hby at_158) rfl (by decide) (by decide) fun T1222 h1222 b1222 g1222 X1222 e1222 E1222 A1222 D1222 UN1222 => ?_
                      have ll1222 : @LT.lt Nat _ b1222 (Array.size h1222) := A1222.lt
                      have z1222 := E1222.1
                      have F1223 : fl5 Z h1222 b1222 (.int (0 : Int32)) := D1222 (Or.inl (wd52 hw)) (ty := .int) (by decide)
                      have F1224 : fl7 Z h1222 b1222 .null := D1222 (Or.inl (wd55 hw)) (ty := (.array (.object "java/lang/Object"))) (by decide)
                      have F1225 : fl6 Z h1222 b1222 (.int (0 : Int32)) := D1222 (Or.inl (wd68 hw)) (ty := .int) (by decide)
                      refine own_ru 162 [(.ref b1222), (.ref b1222)] X1222 hx hby e0_161_1 rfl rfl ?_
                      have f1226 := ((f1220.keep K1221 (allS (by omega) all0)).ext E1222)
                      refine own_cN X1222 hx hZ hown rfl (wd35 hw) (wd36 hw) (by decide) (wd37 hw) (wd34 hw) (rm5 l Z a0 hw [] o_EXTRA_HIGH o_HIGH o_ZERO o_DEF kDEF o_pos cl_pos o_neg cl_neg b1222 h1222 n0 (by omega) f1226 A A1222 F1223 F1225 F1224 (by omega)) e1222  [] [(.ref b1222)] 165 1 (hb hby at_162) rfl (by rw [hml]; rfl) rfl rfl (lenOf pd_0 rfl) rfl (by decide) fun v1227 T1227 Lc1227 X1227 hQ1227 => ?_
                      obtain ⟨rfl, N1227q, K1227, G1227_0, G1227_1, G1227_2, G1227_3⟩ := hQ1227
                      have N1227 := Fr.app N1221 N1227q
                      have z1227 := K1227.1
                      have lt1227_0 : @LT.lt Nat _ b1222 (Array.size T1227.heap) := G1227_0.lt
                      refine own_rl 171 #[.val (.int i0), .val (.int i1), .val (.int i2), .val (.int i3), .val (.long i4), .second, .val (.int (3 : Int32)), .val (.int (1 : Int32)), .val (.long v27), .second, .val (.long v39), .second, .val (.long v51), .second, .val (.ref ob_919), .val (.ref ob_921), .val (.ref ob_923), .val (.ref ob_925), .val (.ref vc0), .val (.ref vc1), .val (.ref vc2), .val (.ref b1210), .val (.ref b1216), .val (.ref b1222), .unset, .unset, .unset, .unset] [(.ref ob_925), (.ref b1210)] X1227 hx hby e0_165_3 rfl rfl ?_
                      have f1228 := (f1226.keep K1227 (allS (by omega) all0))
                      have f1229 := (Exa.keep (Exa.ext E1222 (Exa.keep (Exa.ext E1216 G1215_0) K1221)) K1227)
                      have f1230 := ((Fld.ext E1222 ((Fld.ext E1216 G1215_1).keep K1221 (own_nS (by omega) nin0))).keep K1227 (own_nS (by omega) nin0))
                      have f1231 := ((Fld.ext E1222 ((Fld.ext E1216 G1215_2).keep K1221 (own_nS (by omega) nin0))).keep K1227 (own_nS (by omega) nin0))
                      have f1232 := ((Fld.ext E1222 ((Fld.ext E1216 G1215_3).keep K1221 (own_nS (by omega) nin0))).keep K1227 (own_nS (by omega) nin0))
                      have f1233 := (Exa.keep (Exa.ext E1222 (Exa.keep (Exa.ext E1216 (Exa.keep (Exa.ext E1210 FJ928_4) K1215)) K1221)) K1227)
                      have f1234 : Ins Z T1227.heap ob_925 "java/lang/Object" true := (Ins.of_exa f1233 (wd90 hw))
                      refine own_cI X1227 hx hZ hown (wd56 hw) (wd57 hw) (mvT hZ (wd58 hw)) (wd59 hw) (wd60 hw) (wd61 hw) (wd62 hw) (wd63 hw) (by decide) (wd64 hw) (wd34 hw) (rm8z l Z a0 hw [] o_EXTRA_HIGH o_HIGH o_ZERO o_DEF kDEF o_pos cl_pos o_neg cl_neg b1210 ob_925 (0 : Int32) T1227.heap n0 (by omega) f1228 A f1229 f1230 f1231 f1232 f1234 (by omega)) rfl f1229 [(.ref ob_925)] [] 176 0 (hb hby at_171) rfl (by rw [hml]; rfl) rfl rfl (lenOf pd_11 rfl) rfl (by decide) fun v1235 T1235 Lc1235 X1235 hQ1235 => ?_
                      obtain ⟨ar_1235, kk_1235, rfl, N1235q, K1235, G1235_0, G1235_1, G1235_2, G1235_3, G1235_4, U1235_0, U1235_1⟩ := hQ1235
                      have N1235 := Fr.app N1227 N1235q
                      have z1235 := K1235.1
                      have lt1235_0 : @LT.lt Nat _ b1210 (Array.size T1235.heap) := G1235_0.lt
                      have G1235_1' : fl5 Z T1235.heap b1210 (.int (1 : Int32)) := G1235_1
                      have lt1235_4 : @LT.lt Nat _ ar_1235 (Array.size T1235.heap) := G1235_4.lt
                      refine own_ru 181 [(.ref vc0), (.ref b1216)] X1235 hx hby e0_176_3 rfl rfl ?_
                      have f1236 := (f1228.keep K1235 (allS (by omega) all0))
                      have f1237 := (Exa.keep (Exa.keep (Exa.ext E1222 G1221_0) K1227) K1235)
                      have f1238 := (((Fld.ext E1222 G1221_1).keep K1227 (own_nS (by omega) nin0)).keep K1235 (own_nS (by omega) nin0))
                      have f1239 := (((Fld.ext E1222 G1221_2).keep K1227 (own_nS (by omega) nin0)).keep K1235 (own_nS (by omega) nin0))
                      have f1240 := (((Fld.ext E1222 G1221_3).keep K1227 (own_nS (by omega) nin0)).keep K1235 (own_nS (by omega) nin0))
                      have f1241 := (Exa.keep (Exa.keep (Exa.ext E1222 (Exa.keep (Exa.ext E1216 (Exa.keep (Exa.ext E1210 FJ928_5) K1215)) K1221)) K1227) K1235)
                      have f1242 : Ins Z T1235.heap vc0 "java/lang/Object" true := (Ins.of_exa f1241 (wd91 hw))
                      refine own_cI X1235 hx hZ hown (wd56 hw) (wd57 hw) (mvT hZ (wd58 hw)) (wd59 hw) (wd60 hw) (wd61 hw) (wd62 hw) (wd63 hw) (by decide) (wd64 hw) (wd34 hw) (rm8z l Z a0 hw [] o_EXTRA_HIGH o_HIGH o_ZERO o_DEF kDEF o_pos cl_pos o_neg cl_neg b1216 vc0 (0 : Int32) T1235.heap n0 (by omega) f1236 A f1237 f1238 f1239 f1240 f1242 (by omega)) rfl f1237 [(.ref vc0)] [] 186 0 (hb hby at_181) rfl (by rw [hml]; rfl) rfl rfl (lenOf pd_11 rfl) rfl (by decide) fun v1243 T1243 Lc1243 X1243 hQ1243 => ?_
                      obtain ⟨ar_1243, kk_1243, rfl, N1243q, K1243, G1243_0, G1243_1, G1243_2, G1243_3, G1243_4, U1243_0, U1243_1⟩ := hQ1243
                      have N1243 := Fr.app N1235 N1243q
                      have z1243 := K1243.1
                      have lt1243_0 : @LT.lt Nat _ b1216 (Array.size T1243.heap) := G1243_0.lt
                      have G1243_1' : fl5 Z T1243.heap b1216 (.int (1 : Int32)) := G1243_1
                      have lt1243_4 : @LT.lt Nat _ ar_1243 (Array.size T1243.heap) := G1243_4.lt
                      refine own_ru 190 [(.int (2 : Int32)), (.int (3 : Int32))] X1243 hx hby e0_186_3 rfl rfl ?_
                      refine own_kN 193 X1243 hx (hb hby at_190) rfl (flt (by decide : ¬ ((3 : Int32) < (2 : Int32)))).1 rfl ?_
                      refine own_ru 197 [(.ref ob_925), (.ref b1210)] X1243 hx hby e0_193_2 rfl rfl ?_
                      have f1244 := (Exa.keep G1235_0 K1243)
                      have f1245 := (G1235_1'.keep K1243 (own_nS (by omega) nin0))
                      have f1246 := (G1235_2.keep K1243 (own_nS (by omega) nin0))
                      have f1247 := (G1235_3.keep K1243 (own_nS (by omega) nin0))
                      have f1248 := (G1235_4.keep K1243 (own_nS (by omega) nin0))
                      have f1249 := (own_insKeep (own_insKeep f1234 K1235) K1243)
                      refine own_cI X1243 hx hZ hown (wd56 hw) (wd57 hw) (mvT hZ (wd58 hw)) (wd59 hw) (wd60 hw) (wd61 hw) (wd62 hw) (wd63 hw) (by decide) (wd64 hw) (wd34 hw) (rm8s1 l Z a0 hw [] b1210 ob_925 (1 : Int32) ar_1235 kk_1235 [(.ref ob_925), .null, .null, .null, .null, .null, .null, .null, .null, .null] T1243.heap n0 (by omega) f1244 f1245 f1246 f1247 f1248 f1249 (by omega) (by omega) rfl U1235_0 (by first | assumption | decide | omega)) rfl f1244 [(.ref ob_925)] [] 202 0 (hb hby at_197) rfl (by rw [hml]; rfl) rfl rfl (lenOf pd_11 rfl) rfl (by decide) fun v1250 T1250 Lc1250 X1250 hQ1250 => ?_
                      obtain ⟨rfl, N1250q, K1250, G1250_0, G1250_1, G1250_2, G1250_3, G1250_4⟩ := hQ1250
                      have N1250 := Fr.app N1243 N1250q
                      have z1250 := K1250.1
                      have lt1250_0 : @LT.lt Nat _ b1210 (Array.size T1250.heap) := G1250_0.lt
                      have G1250_1' : fl5 Z T1250.heap b1210 (.int (2 : Int32)) := G1250_1
                      have G1250_4' : Arv Z T1250.heap ar_1235 kk_1235 (.object "java/lang/Object") (10 : Int32) [(.ref ob_925), (.ref ob_925), .null, .null, .null, .null, .null, .null, .null, .null] .null := G1250_4
                      have lt1250_4 : @LT.lt Nat _ ar_1235 (Array.size T1250.heap) := G1250_4.lt
                      refine own_ru 207 [(.ref vc1), (.ref b1216)] X1250 hx hby e0_202_3 rfl rfl ?_
                      have f1251 := (Exa.keep G1243_0 K1250)
                      have f1252 := (G1243_1'.keep K1250 (own_nS (by omega) (own_nS (by omega) nin0)))
                      have f1253 := (G1243_2.keep K1250 (own_nS (by omega) (own_nS (by omega) nin0)))
                      have f1254 := (G1243_3.keep K1250 (own_nS (by omega) (own_nS (by omega) nin0)))
                      have f1255 := (G1243_4.keep K1250 (own_nS (by omega) (own_nS (by omega) nin0)))
                      have f1256 := (Exa.keep (Exa.keep (Exa.keep (Exa.keep (Exa.ext E1222 (Exa.keep (Exa.ext E1216 (Exa.keep (Exa.ext E1210 FJ928_6) K1215)) K1221)) K1227) K1235) K1243) K1250)
                      have f1257 : Ins Z T1250.heap vc1 "java/lang/Object" true := (Ins.of_exa f1256 (wd91 hw))
                      refine own_cI X1250 hx hZ hown (wd56 hw) (wd57 hw) (mvT hZ (wd58 hw)) (wd59 hw) (wd60 hw) (wd61 hw) (wd62 hw) (wd63 hw) (by decide) (wd64 hw) (wd34 hw) (rm8s1 l Z a0 hw [] b1216 vc1 (1 : Int32) ar_1243 kk_1243 [(.ref vc0), .null, .null, .null, .null, .null, .null, .null, .null, .null] T1250.heap n0 (by omega) f1251 f1252 f1253 f1254 f1255 f1257 (by omega) (by omega) rfl U1243_0 (by first | assumption | decide | omega)) rfl f1251 [(.ref vc1)] [] 212 0 (hb hby at_207) rfl (by rw [hml]; rfl) rfl rfl (lenOf pd_11 rfl) rfl (by decide) fun v1258 T1258 Lc1258 X1258 hQ1258 => ?_
                      obtain ⟨rfl, N1258q, K1258, G1258_0, G1258_1, G1258_2, G1258_3, G1258_4⟩ := hQ1258
                      have N1258 := Fr.app N1250 N1258q
                      have z1258 := K1258.1
                      have lt1258_0 : @LT.lt Nat _ b1216 (Array.size T1258.heap) := G1258_0.lt
                      have G1258_1' : fl5 Z T1258.heap b1216 (.int (2 : Int32)) := G1258_1
                      have G1258_4' : Arv Z T1258.heap ar_1243 kk_1243 (.object "java/lang/Object") (10 : Int32) [(.ref vc0), (.ref vc1), .null, .null, .null, .null, .null, .null, .null, .null] .null := G1258_4
                      have lt1258_4 : @LT.lt Nat _ ar_1243 (Array.size T1258.heap) := G1258_4.lt
                      refine own_ru 216 [(.int (3 : Int32)), (.int (3 : Int32))] X1258 hx hby e0_212_3 rfl rfl ?_
                      refine own_kN 219 X1258 hx (hb hby at_216) rfl (flt (by decide : ¬ ((3 : Int32) < (3 : Int32)))).1 rfl ?_
                      refine own_ru 223 [(.ref ob_925), (.ref b1210)] X1258 hx hby e0_219_2 rfl rfl ?_
                      have f1259 := (Exa.keep G1250_0 K1258)
                      have f1260 := (G1250_1'.keep K1258 (own_nS (by omega) (own_nS (by omega) nin0)))
                      have f1261 := (G1250_2.keep K1258 (own_nS (by omega) (own_nS (by omega) nin0)))
                      have f1262 := (G1250_3.keep K1258 (own_nS (by omega) (own_nS (by omega) nin0)))
                      have f1263 := (G1250_4'.keep K1258 (own_nS (by omega) (own_nS (by omega) nin0)))
                      have f1264 := (own_insKeep (own_insKeep f1249 K1250) K1258)
                      refine own_cI X1258 hx hZ hown (wd56 hw) (wd57 hw) (mvT hZ (wd58 hw)) (wd59 hw) (wd60 hw) (wd61 hw) (wd62 hw) (wd63 hw) (by decide) (wd64 hw) (wd34 hw) (rm8s2 l Z a0 hw [] b1210 ob_925 (2 : Int32) ar_1235 kk_1235 [(.ref ob_925), (.ref ob_925), .null, .null, .null, .null, .null, .null, .null, .null] T1258.heap n0 (by omega) f1259 f1260 f1261 f1262 f1263 f1264 (by omega) (by omega) rfl U1235_0 (by first | assumption | decide | omega)) rfl f1259 [(.ref ob_925)] [] 228 0 (hb hby at_223) rfl (by rw [hml]; rfl) rfl rfl (lenOf pd_11 rfl) rfl (by decide) fun v1265 T1265 Lc1265 X1265 hQ1265 => ?_
                      obtain ⟨rfl, N1265q, K1265, G1265_0, G1265_1, G1265_2, G1265_3, G1265_4⟩ := hQ1265
                      have N1265 := Fr.app N1258 N1265q
                      have z1265 := K1265.1
                      have lt1265_0 : @LT.lt Nat _ b1210 (Array.size T1265.heap) := G1265_0.lt
                      have G1265_1' : fl5 Z T1265.heap b1210 (.int (3 : Int32)) := G1265_1
                      have G1265_4' : Arv Z T1265.heap ar_1235 kk_1235 (.object "java/lang/Object") (10 : Int32) [(.ref ob_925), (.ref ob_925), (.ref ob_925), .null, .null, .null, .null, .null, .null, .null] .null := G1265_4
                      have lt1265_4 : @LT.lt Nat _ ar_1235 (Array.size T1265.heap) := G1265_4.lt
                      refine own_ru 233 [(.ref vc2), (.ref b1216)] X1265 hx hby e0_228_3 rfl rfl ?_
                      have f1266 := (Exa.keep G1258_0 K1265)
                      have f1267 := (G1258_1'.keep K1265 (own_nS (by omega) (own_nS (by omega) nin0)))
                      have f1268 := (G1258_2.keep K1265 (own_nS (by omega) (own_nS (by omega) nin0)))
                      have f1269 := (G1258_3.keep K1265 (own_nS (by omega) (own_nS (by omega) nin0)))
                      have f1270 := (G1258_4'.keep K1265 (own_nS (by omega) (own_nS (by omega) nin0)))
                      have f1271 := (Exa.keep (Exa.keep (Exa.keep (Exa.keep (Exa.keep (Exa.keep (Exa.ext E1222 (Exa.keep (Exa.ext E1216 (Exa.keep (Exa.ext E1210 FJ928_7) K1215)) K1221)) K1227) K1235) K1243) K1250) K1258) K1265)
                      have f1272 : Ins Z T1265.heap vc2 "java/lang/Object" true := (Ins.of_exa f1271 (wd91 hw))
                      refine own_cI X1265 hx hZ hown (wd56 hw) (wd57 hw) (mvT hZ (wd58 hw)) (wd59 hw) (wd60 hw) (wd61 hw) (wd62 hw) (wd63 hw) (by decide) (wd64 hw) (wd34 hw) (rm8s2 l Z a0 hw [] b1216 vc2 (2 : Int32) ar_1243 kk_1243 [(.ref vc0), (.ref vc1), .null, .null, .null, .null, .null, .null, .null, .null] T1265.heap n0 (by omega) f1266 f1267 f1268 f1269 f1270 f1272 (by omega) (by omega) rfl U1243_0 (by first | assumption | decide | omega)) rfl f1266 [(.ref vc2)] [] 238 0 (hb hby at_233) rfl (by rw [hml]; rfl) rfl rfl (lenOf pd_11 rfl) rfl (by decide) fun v1273 T1273 Lc1273 X1273 hQ1273 => ?_
                      obtain ⟨rfl, N1273q, K1273, G1273_0, G1273_1, G1273_2, G1273_3, G1273_4⟩ := hQ1273
                      have N1273 := Fr.app N1265 N1273q
                      have z1273 := K1273.1
                      have lt1273_0 : @LT.lt Nat _ b1216 (Array.size T1273.heap) := G1273_0.lt
                      have G1273_1' : fl5 Z T1273.heap b1216 (.int (3 : Int32)) := G1273_1
                      have G1273_4' : Arv Z T1273.heap ar_1243 kk_1243 (.object "java/lang/Object") (10 : Int32) [(.ref vc0), (.ref vc1), (.ref vc2), .null, .null, .null, .null, .null, .null, .null] .null := G1273_4
                      have lt1273_4 : @LT.lt Nat _ ar_1243 (Array.size T1273.heap) := G1273_4.lt
                      refine own_ru 241 [(.int (1 : Int32))] X1273 hx hby e0_238_2 rfl rfl ?_
                      refine own_iN 244 X1273 hx (hb hby at_241) rfl ((if0 _ _).trans (feq (by decide : ¬ ((1 : Int32) = (0 : Int32)))).1) rfl ?_
                      refine own_ru 246 [(.int (3 : Int32))] X1273 hx hby e0_244_1 rfl rfl ?_
                      refine own_go 253 X1273 hx (hb hby at_246) (by decide) (by decide) ?_
                      refine own_rl 258 #[.val (.int i0), .val (.int i1), .val (.int i2), .val (.int i3), .val (.long i4), .second, .val (.int (3 : Int32)), .val (.int (1 : Int32)), .val (.long v27), .second, .val (.long v39), .second, .val (.long v51), .second, .val (.ref ob_919), .val (.ref ob_921), .val (.ref ob_923), .val (.ref ob_925), .val (.ref vc0), .val (.ref vc1), .val (.ref vc2), .val (.ref b1210), .val (.ref b1216), .val (.ref b1222), .val (.int (3 : Int32)), .unset, .unset, .unset] [(.int (1 : Int32)), (.int (3 : Int32))] X1273 hx hby e0_253_3 rfl rfl ?_
                      refine own_kN 261 X1273 hx (hb hby at_258) rfl (flt (by decide : ¬ ((3 : Int32) < (1 : Int32)))).1 rfl ?_
                      refine own_ru 265 [(.ref ob_919), (.ref b1222)] X1273 hx hby e0_261_2 rfl rfl ?_
                      have f1274 := (((((f1236.keep K1243 (allS (by omega) all0)).keep K1250 (allS (by omega) (allS (by omega) all0))).keep K1258 (allS (by omega) (allS (by omega) all0))).keep K1265 (allS (by omega) (allS (by omega) all0))).keep K1273 (allS (by omega) (allS (by omega) all0)))
                      have f1275 := (Exa.keep (Exa.keep (Exa.keep (Exa.keep (Exa.keep (Exa.keep G1227_0 K1235) K1243) K1250) K1258) K1265) K1273)
                      have f1276 := ((((((G1227_1.keep K1235 (own_nS (by omega) nin0)).keep K1243 (own_nS (by omega) nin0)).keep K1250 (own_nS (by omega) (own_nS (by omega) nin0))).keep K1258 (own_nS (by omega) (own_nS (by omega) nin0))).keep K1265 (own_nS (by omega) (own_nS (by omega) nin0))).keep K1273 (own_nS (by omega) (own_nS (by omega) nin0)))
                      have f1277 := ((((((G1227_2.keep K1235 (own_nS (by omega) nin0)).keep K1243 (own_nS (by omega) nin0)).keep K1250 (own_nS (by omega) (own_nS (by omega) nin0))).keep K1258 (own_nS (by omega) (own_nS (by omega) nin0))).keep K1265 (own_nS (by omega) (own_nS (by omega) nin0))).keep K1273 (own_nS (by omega) (own_nS (by omega) nin0)))
                      have f1278 := ((((((G1227_3.keep K1235 (own_nS (by omega) nin0)).keep K1243 (own_nS (by omega) nin0)).keep K1250 (own_nS (by omega) (own_nS (by omega) nin0))).keep K1258 (own_nS (by omega) (own_nS (by omega) nin0))).keep K1265 (own_nS (by omega) (own_nS (by omega) nin0))).keep K1273 (own_nS (by omega) (own_nS (by omega) nin0)))
                      have f1279 := (Exa.keep (Exa.keep (Exa.keep (Exa.keep (Exa.keep (Exa.keep (Exa.keep (Exa.ext E1222 (Exa.keep (Exa.ext E1216 (Exa.keep (Exa.ext E1210 FJ928_1) K1215)) K1221)) K1227) K1235) K1243) K1250) K1258) K1265) K1273)
                      have f1280 : Ins Z T1273.heap ob_919 "java/lang/Object" true := (Ins.of_exa f1279 (wd90 hw))
                      refine own_cI X1273 hx hZ hown (wd56 hw) (wd57 hw) (mvT hZ (wd58 hw)) (wd59 hw) (wd60 hw) (wd61 hw) (wd62 hw) (wd63 hw) (by decide) (wd64 hw) (wd34 hw) (rm8z l Z a0 hw [] o_EXTRA_HIGH o_HIGH o_ZERO o_DEF kDEF o_pos cl_pos o_neg cl_neg b1222 ob_919 (0 : Int32) T1273.heap n0 (by omega) f1274 A f1275 f1276 f1277 f1278 f1280 (by omega)) rfl f1275 [(.ref ob_919)] [] 270 0 (hb hby at_265) rfl (by rw [hml]; rfl) rfl rfl (lenOf pd_11 rfl) rfl (by decide) fun v1281 T1281 Lc1281 X1281 hQ1281 => ?_
                      obtain ⟨ar_1281, kk_1281, rfl, N1281q, K1281, G1281_0, G1281_1, G1281_2, G1281_3, G1281_4, U1281_0, U1281_1⟩ := hQ1281
                      have N1281 := Fr.app N1273 N1281q
                      have z1281 := K1281.1
                      have lt1281_0 : @LT.lt Nat _ b1222 (Array.size T1281.heap) := G1281_0.lt
                      have G1281_1' : fl5 Z T1281.heap b1222 (.int (1 : Int32)) := G1281_1
                      have lt1281_4 : @LT.lt Nat _ ar_1281 (Array.size T1281.heap) := G1281_4.lt
                      refine own_ru 274 [(.int (2 : Int32)), (.int (3 : Int32))] X1281 hx hby e0_270_3 rfl rfl ?_
                      refine own_kN 277 X1281 hx (hb hby at_274) rfl (flt (by decide : ¬ ((3 : Int32) < (2 : Int32)))).1 rfl ?_
                      refine own_ru 281 [(.ref ob_921), (.ref b1222)] X1281 hx hby e0_277_2 rfl rfl ?_
                      have f1282 := (Exa.keep (Exa.keep (Exa.keep (Exa.keep (Exa.keep (Exa.keep (Exa.keep (Exa.keep (Exa.ext E1222 (Exa.keep (Exa.ext E1216 (Exa.keep (Exa.ext E1210 FJ928_2) K1215)) K1221)) K1227) K1235) K1243) K1250) K1258) K1265) K1273) K1281)
                      have f1283 : Ins Z T1281.heap ob_921 "java/lang/Object" true := (Ins.of_exa f1282 (wd90 hw))
                      refine own_cI X1281 hx hZ hown (wd56 hw) (wd57 hw) (mvT hZ (wd58 hw)) (wd59 hw) (wd60 hw) (wd61 hw) (wd62 hw) (wd63 hw) (by decide) (wd64 hw) (wd34 hw) (rm8s1 l Z a0 hw [] b1222 ob_921 (1 : Int32) ar_1281 kk_1281 [(.ref ob_919), .null, .null, .null, .null, .null, .null, .null, .null, .null] T1281.heap n0 (by omega) G1281_0 G1281_1' G1281_2 G1281_3 G1281_4 f1283 (by omega) (by omega) rfl U1281_0 (by first | assumption | decide | omega)) rfl G1281_0 [(.ref ob_921)] [] 286 0 (hb hby at_281) rfl (by rw [hml]; rfl) rfl rfl (lenOf pd_11 rfl) rfl (by decide) fun v1284 T1284 Lc1284 X1284 hQ1284 => ?_
                      obtain ⟨rfl, N1284q, K1284, G1284_0, G1284_1, G1284_2, G1284_3, G1284_4⟩ := hQ1284
                      have N1284 := Fr.app N1281 N1284q
                      have z1284 := K1284.1
                      have lt1284_0 : @LT.lt Nat _ b1222 (Array.size T1284.heap) := G1284_0.lt
                      have G1284_1' : fl5 Z T1284.heap b1222 (.int (2 : Int32)) := G1284_1
                      have G1284_4' : Arv Z T1284.heap ar_1281 kk_1281 (.object "java/lang/Object") (10 : Int32) [(.ref ob_919), (.ref ob_921), .null, .null, .null, .null, .null, .null, .null, .null] .null := G1284_4
                      have lt1284_4 : @LT.lt Nat _ ar_1281 (Array.size T1284.heap) := G1284_4.lt
                      as_aux_lemma =>
                        refine own_ru 290 [(.int (3 : Int32)), (.int (3 : Int32))] X1284 hx hby e0_286_3 rfl rfl ?_
                        refine own_kN 293 X1284 hx (hb hby at_290) rfl (flt (by decide : ¬ ((3 : Int32) < (3 : Int32)))).1 rfl ?_
                        refine own_ru 297 [(.ref ob_923), (.ref b1222)] X1284 hx hby e0_293_2 rfl rfl ?_
                        have f1285 := (Exa.keep (Exa.keep (Exa.keep (Exa.keep (Exa.keep (Exa.keep (Exa.keep (Exa.keep (Exa.keep (Exa.ext E1222 (Exa.keep (Exa.ext E1216 (Exa.keep (Exa.ext E1210 FJ928_3) K1215)) K1221)) K1227) K1235) K1243) K1250) K1258) K1265) K1273) K1281) K1284)
                        have f1286 : Ins Z T1284.heap ob_923 "java/lang/Object" true := (Ins.of_exa f1285 (wd90 hw))
                        refine own_cI X1284 hx hZ hown (wd56 hw) (wd57 hw) (mvT hZ (wd58 hw)) (wd59 hw) (wd60 hw) (wd61 hw) (wd62 hw) (wd63 hw) (by decide) (wd64 hw) (wd34 hw) (rm8s2 l Z a0 hw [] b1222 ob_923 (2 : Int32) ar_1281 kk_1281 [(.ref ob_919), (.ref ob_921), .null, .null, .null, .null, .null, .null, .null, .null] T1284.heap n0 (by omega) G1284_0 G1284_1' G1284_2 G1284_3 G1284_4' f1286 (by omega) (by omega) rfl U1281_0 (by first | assumption | decide | omega)) rfl G1284_0 [(.ref ob_923)] [] 302 0 (hb hby at_297) rfl (by rw [hml]; rfl) rfl rfl (lenOf pd_11 rfl) rfl (by decide) fun v1287 T1287 Lc1287 X1287 hQ1287 => ?_
                        obtain ⟨rfl, N1287q, K1287, G1287_0, G1287_1, G1287_2, G1287_3, G1287_4⟩ := hQ1287
                        have N1287 := Fr.app N1284 N1287q
                        have z1287 := K1287.1
                        have lt1287_0 : @LT.lt Nat _ b1222 (Array.size T1287.heap) := G1287_0.lt
                        have G1287_1' : fl5 Z T1287.heap b1222 (.int (3 : Int32)) := G1287_1
                        have G1287_4' : Arv Z T1287.heap ar_1281 kk_1281 (.object "java/lang/Object") (10 : Int32) [(.ref ob_919), (.ref ob_921), (.ref ob_923), .null, .null, .null, .null, .null, .null, .null] .null := G1287_4
                        have lt1287_4 : @LT.lt Nat _ ar_1281 (Array.size T1287.heap) := G1287_4.lt
                        refine own_rl 308 #[.val (.int i0), .val (.int i1), .val (.int i2), .val (.int i3), .val (.long i4), .second, .val (.int (3 : Int32)), .val (.int (1 : Int32)), .val (.long v27), .second, .val (.long v39), .second, .val (.long v51), .second, .val (.ref ob_919), .val (.ref ob_921), .val (.ref ob_923), .val (.ref ob_925), .val (.ref vc0), .val (.ref vc1), .val (.ref vc2), .val (.ref b1210), .val (.ref b1216), .val (.ref b1222), .val (.int (3 : Int32)), .val .null, .unset, .unset] [(.int (1 : Int32))] X1287 hx hby e0_302_4 rfl rfl ?_
                        refine own_iN 311 X1287 hx (hb hby at_308) rfl ((if0 _ _).trans (feq (by decide : ¬ ((1 : Int32) = (0 : Int32)))).1) rfl ?_
                        refine own_ru 314 [(.int (1 : Int32)), (.int (3 : Int32))] X1287 hx hby e0_311_2 rfl rfl ?_
                        refine own_kY 324 X1287 hx (hb hby at_314) rfl (feq (by decide : ¬ ((3 : Int32) = (1 : Int32)))).2 (by decide) (by decide) ?_
                        refine own_ru 327 [(.int (2 : Int32)), (.int (3 : Int32))] X1287 hx hby e0_324_2 rfl rfl ?_
                        refine own_kY 337 X1287 hx (hb hby at_327) rfl (feq (by decide : ¬ ((3 : Int32) = (2 : Int32)))).2 (by decide) (by decide) ?_
                        refine own_rl 341 #[.val (.int i0), .val (.int i1), .val (.int i2), .val (.int i3), .val (.long i4), .second, .val (.int (3 : Int32)), .val (.int (1 : Int32)), .val (.long v27), .second, .val (.long v39), .second, .val (.long v51), .second, .val (.ref ob_919), .val (.ref ob_921), .val (.ref ob_923), .val (.ref ob_925), .val (.ref vc0), .val (.ref vc1), .val (.ref vc2), .val (.ref b1210), .val (.ref b1216), .val (.ref b1222), .val (.int (3 : Int32)), .val (.ref ob_923), .unset, .unset] [] X1287 hx hby e0_337_2 rfl rfl ?_
                        refine own_nO X1287 hx hZ hown (wd92 hw) (wd93 hw) (wd94 hw) rfl 344 (hb hby at_341) rfl (by decide) (by decide) fun T1288 h1288 b1288 g1288 X1288 e1288 E1288 A1288 D1288 UN1288 => ?_
                        have ll1288 : @LT.lt Nat _ b1288 (Array.size h1288) := A1288.lt
                        have z1288 := E1288.1
                        have F1289 : fl14 Z h1288 b1288 .null := D1288 (Or.inr (wd102 hw)) (ty := (.object "java/util/List")) (by decide)
                        refine own_ru 351 [(.ref b1222), (.ref b1216), (.ref b1210), (.ref b1288), (.ref b1288)] X1288 hx hby e0_344_4 rfl rfl ?_
                        have f1290 := ((((f1274.keep K1281 (allS (by omega) all0)).keep K1284 (allS (by omega) (allS (by omega) all0))).keep K1287 (allS (by omega) (allS (by omega) all0))).ext E1288)
                        have f1291 := (Exa.ext E1288 (Exa.keep (Exa.keep (Exa.keep (Exa.keep G1265_0 K1273) K1281) K1284) K1287))
                        have f1292 := (Fld.ext E1288 ((((G1265_2.keep K1273 (own_nS (by omega) (own_nS (by omega) nin0))).keep K1281 (own_nS (by omega) nin0)).keep K1284 (own_nS (by omega) (own_nS (by omega) nin0))).keep K1287 (own_nS (by omega) (own_nS (by omega) nin0))))
                        have f1293 := (Fld.ext E1288 ((((G1265_3.keep K1273 (own_nS (by omega) (own_nS (by omega) nin0))).keep K1281 (own_nS (by omega) nin0)).keep K1284 (own_nS (by omega) (own_nS (by omega) nin0))).keep K1287 (own_nS (by omega) (own_nS (by omega) nin0))))
                        have f1294 := (((((G1265_4'.keep K1273 (own_nS (by omega) (own_nS (by omega) nin0))).keep K1281 (own_nS (by omega) nin0)).keep K1284 (own_nS (by omega) (own_nS (by omega) nin0))).keep K1287 (own_nS (by omega) (own_nS (by omega) nin0))).ext E1288)
                        have f1295 := (Exa.ext E1288 (Exa.keep (Exa.keep (Exa.keep G1273_0 K1281) K1284) K1287))
                        have f1296 := (Fld.ext E1288 (((G1273_2.keep K1281 (own_nS (by omega) nin0)).keep K1284 (own_nS (by omega) (own_nS (by omega) nin0))).keep K1287 (own_nS (by omega) (own_nS (by omega) nin0))))
                        have f1297 := (Fld.ext E1288 (((G1273_3.keep K1281 (own_nS (by omega) nin0)).keep K1284 (own_nS (by omega) (own_nS (by omega) nin0))).keep K1287 (own_nS (by omega) (own_nS (by omega) nin0))))
                        have f1298 := ((((G1273_4'.keep K1281 (own_nS (by omega) nin0)).keep K1284 (own_nS (by omega) (own_nS (by omega) nin0))).keep K1287 (own_nS (by omega) (own_nS (by omega) nin0))).ext E1288)
                        have f1299 := (Exa.ext E1288 G1287_0)
                        have f1300 := (Fld.ext E1288 G1287_2)
                        have f1301 := (Fld.ext E1288 G1287_3)
                        have f1302 := (G1287_4'.ext E1288)
                        have f1303 := (Exa.ext E1288 (Exa.keep (Exa.keep (Exa.keep (Exa.keep (Exa.keep (Exa.keep (Exa.keep (Exa.keep (Exa.keep f1233 K1235) K1243) K1250) K1258) K1265) K1273) K1281) K1284) K1287))
                        have f1304 := (Exa.ext E1288 (Exa.keep (Exa.keep (Exa.keep (Exa.keep (Exa.keep (Exa.keep (Exa.keep (Exa.keep f1241 K1243) K1250) K1258) K1265) K1273) K1281) K1284) K1287))
                        have f1305 := (Exa.ext E1288 (Exa.keep (Exa.keep (Exa.keep (Exa.keep (Exa.keep (Exa.keep f1256 K1258) K1265) K1273) K1281) K1284) K1287))
                        have f1306 := (Exa.ext E1288 (Exa.keep (Exa.keep (Exa.keep (Exa.keep f1271 K1273) K1281) K1284) K1287))
                        have f1307 := (Exa.ext E1288 (Exa.keep (Exa.keep (Exa.keep f1279 K1281) K1284) K1287))
                        have f1308 := (Exa.ext E1288 (Exa.keep (Exa.keep f1282 K1284) K1287))
                        have f1309 := (Exa.ext E1288 (Exa.keep f1285 K1287))
                        refine own_cN X1288 hx hZ hown rfl (wd95 hw) (wd96 hw) (by decide) (wd97 hw) (wd94 hw) (rm13t33 l Z a0 hw [] o_EXTRA_HIGH o_HIGH o_ZERO o_DEF kDEF o_pos cl_pos o_neg cl_neg b1288 b1210 b1216 b1222 ar_1235 kk_1235 ar_1243 kk_1243 ar_1281 kk_1281 ob_925 vc0 vc1 vc2 ob_919 ob_921 ob_923 h1288 n0 (by omega) f1290 A A1288 F1289 f1291 f1292 f1293 f1294 f1295 f1296 f1297 f1298 f1299 f1300 f1301 f1302 f1303 f1304 f1305 f1306 f1307 f1308 f1309 (by omega) (by first | assumption | decide | omega) (by first | assumption | decide | omega) (by first | assumption | decide | omega) (by first | assumption | decide | omega) (by first | assumption | decide | omega) (by first | assumption | decide | omega)) e1288  [(.ref b1210), (.ref b1216), (.ref b1222)] [(.ref b1288)] 354 1 (hb hby at_351) rfl (by rw [hml]; rfl) rfl rfl (lenOf pd_13 rfl) rfl (by decide) fun v1310 T1310 Lc1310 X1310 hQ1310 => ?_
                        obtain ⟨vl_1310, ra_1310, kr_1310, vo0_1310, vo1_1310, vo2_1310, rfl, N1310q, K1310, G1310_0, G1310_1, G1310_2, G1310_3, G1310_4, G1310_5, G1310_6, G1310_7⟩ := hQ1310
                        have N1310 := Fr.app N1287 N1310q
                        have z1310 := K1310.1
                        have lt1310_0 : @LT.lt Nat _ b1288 (Array.size T1310.heap) := G1310_0.lt
                        have lt1310_2 : @LT.lt Nat _ vl_1310 (Array.size T1310.heap) := G1310_2.lt
                        have lt1310_5 : @LT.lt Nat _ ra_1310 (Array.size T1310.heap) := G1310_5.lt
                        have lt1310_6 : @LT.lt Nat _ vo2_1310 (Array.size T1310.heap) := G1310_6.lt
                        refine own_rl 358 #[.val (.int i0), .val (.int i1), .val (.int i2), .val (.int i3), .val (.long i4), .second, .val (.int (3 : Int32)), .val (.int (1 : Int32)), .val (.long v27), .second, .val (.long v39), .second, .val (.long v51), .second, .val (.ref ob_919), .val (.ref ob_921), .val (.ref ob_923), .val (.ref ob_925), .val (.ref vc0), .val (.ref vc1), .val (.ref vc2), .val (.ref b1210), .val (.ref b1216), .val (.ref b1222), .val (.int (3 : Int32)), .val (.ref ob_923), .val (.ref b1288), .unset] [(.ref b1288)] X1310 hx hby e0_354_2 rfl rfl ?_
                        refine own_cV X1310 hx hZ hown (wd160 hw) (wd161 hw) (notFace_of_selects (args := #[]) (mvT hZ (wd163 hw))) (wd163 hw) (wd162 hw) (by decide) (wd164 hw) (wd94 hw) (rm21b3r l Z a0 hw [] b1288 vl_1310 ra_1310 kr_1310 [(.ref vo0_1310), (.ref vo1_1310), (.ref vo2_1310), .null, .null, .null, .null, .null, .null, .null] vo2_1310 ob_923 T1310.heap n0 (by omega) G1310_0 G1310_1 G1310_2 G1310_3 G1310_4 G1310_5 G1310_6 G1310_7 rfl) rfl G1310_0 [] [] 361 0 (hb hby at_358) rfl (by rw [hml]; rfl) rfl rfl (lenOf pd_14 rfl) rfl (by decide) fun v1311 T1311 Lc1311 X1311 hQ1311 => ?_
                        obtain ⟨rfl, N1311q, e1311⟩ := hQ1311
                        have N1311 := Fr.app N1310 N1311q
                        refine own_rl 365 #[.val (.int i0), .val (.int i1), .val (.int i2), .val (.int i3), .val (.long i4), .second, .val (.int (3 : Int32)), .val (.int (1 : Int32)), .val (.long v27), .second, .val (.long v39), .second, .val (.long v51), .second, .val (.ref ob_919), .val (.ref ob_921), .val (.ref ob_923), .val (.ref ob_925), .val (.ref vc0), .val (.ref vc1), .val (.ref vc2), .val (.ref b1210), .val (.ref b1216), .val (.ref b1222), .val (.int (3 : Int32)), .val (.ref ob_923), .val (.ref b1288), .val (.ref ob_923)] [(.ref ob_923)] X1311 hx hby e0_361_2 rfl rfl ?_
                        refine own_st 379 [] (fun t k => XS.ifnonnullYes X1311.here hx rfl (pc0 := 365) (pc' := 379) rfl (hb hby at_365) rfl (by decide) (by decide) k) ?_
                        refine own_ru 381 [(.ref ob_923)] X1311 hx hby e0_379_1 rfl rfl ?_
                        refine own_st 384 [] (fun t k => XS.ifnullNo X1311.here hx rfl (hb hby at_381) rfl k) ?_
                        refine own_ru 388 [(.ref ob_923), (.ref ob_923)] X1311 hx hby e0_384_2 rfl rfl ?_
                        have f1313 := (Exa.keep f1309 K1310)
                        refine own_cV X1311 hx hZ hown (wd169 hw) (wd170 hw) (notFace_of_selects (args := #[]) (mvT hZ (wd172 hw))) (wd172 hw) (wd171 hw) (by decide) (wd173 hw) (wd4 hw) (rm22 l Z a0 hw [] ob_923 T1310.heap n0 (by omega) ) e1311 f1313 [(.ref ob_923)] [] 391 0 (hb hby at_388) rfl (by rw [hml]; rfl) rfl rfl (lenOf pd_11 rfl) rfl (by decide) fun v1312 T1312 Lc1312 X1312 hQ1312 => ?_
                        obtain ⟨rfl, N1312q, e1312⟩ := hQ1312
                        have N1312 := Fr.app N1311 N1312q
                        refine own_iN 394 X1312 hx (hb hby at_391) rfl ((if0 _ _).trans (feq (by decide : ¬ ((1 : Int32) = (0 : Int32)))).1) rfl ?_
                        refine own_ru 395 [(.int (1 : Int32))] X1312 hx hby e0_394_1 rfl rfl ?_
                        refine own_go 399 X1312 hx (hb hby at_395) (by decide) (by decide) ?_
                        have hq1314 : Q0 Z o_EXTRA_HIGH o_HIGH o_ZERO o_DEF kDEF o_pos cl_pos o_neg cl_neg i0 i1 i2 i3 i4 h0 n0 (some (.int (nar .boolean (1 : Int32)))) T1310.heap _ := ⟨rfl, N1312⟩
                        exact own_retN X1312 hx hlk (t := .boolean) hrt (by simp) (hb hby at_399) e1312 hq1314 (by decide) (by decide)
                  · as_aux_lemma =>
                      refine own_nO XJ928 hx hZ hown (wd32 hw) (wd33 hw) (wd34 hw) eJ928 143 (hb hby at_140) rfl (by decide) (by decide) fun T1315 h1315 b1315 g1315 X1315 e1315 E1315 A1315 D1315 UN1315 => ?_
                      have ll1315 : @LT.lt Nat _ b1315 (Array.size h1315) := A1315.lt
                      have z1315 := E1315.1
                      have F1316 : fl5 Z h1315 b1315 (.int (0 : Int32)) := D1315 (Or.inl (wd52 hw)) (ty := .int) (by decide)
                      have F1317 : fl7 Z h1315 b1315 .null := D1315 (Or.inl (wd55 hw)) (ty := (.array (.object "java/lang/Object"))) (by decide)
                      have F1318 : fl6 Z h1315 b1315 (.int (0 : Int32)) := D1315 (Or.inl (wd68 hw)) (ty := .int) (by decide)
                      refine own_rl 144 #[.val (.int i0), .val (.int i1), .val (.int i2), .val (.int i3), .val (.long i4), .second, .val (.int (3 : Int32)), .val (.int (0 : Int32)), .val (.long v27), .second, .val (.long v39), .second, .val (.long v51), .second, .val (.ref ob_919), .val (.ref ob_921), .val (.ref ob_923), .val (.ref ob_925), .val (.ref vc0), .val (.ref vc1), .val (.ref vc2), .unset, .unset, .unset, .unset, .unset, .unset, .unset] [(.ref b1315), (.ref b1315)] X1315 hx hby e0_143_1 rfl rfl ?_
                      have f1319 := (FJ928_0.ext E1315)
                      refine own_cN X1315 hx hZ hown rfl (wd35 hw) (wd36 hw) (by decide) (wd37 hw) (wd34 hw) (rm5 l Z a0 hw [] o_EXTRA_HIGH o_HIGH o_ZERO o_DEF kDEF o_pos cl_pos o_neg cl_neg b1315 h1315 n0 (by omega) f1319 A A1315 F1316 F1318 F1317 (by omega)) e1315  [] [(.ref b1315)] 147 1 (hb hby at_144) rfl (by rw [hml]; rfl) rfl rfl (lenOf pd_0 rfl) rfl (by decide) fun v1320 T1320 Lc1320 X1320 hQ1320 => ?_
                      obtain ⟨rfl, N1320q, K1320, G1320_0, G1320_1, G1320_2, G1320_3⟩ := hQ1320
                      have N1320 := Fr.app NJ928 N1320q
                      have z1320 := K1320.1
                      have lt1320_0 : @LT.lt Nat _ b1315 (Array.size T1320.heap) := G1320_0.lt
                      refine own_rl 149 #[.val (.int i0), .val (.int i1), .val (.int i2), .val (.int i3), .val (.long i4), .second, .val (.int (3 : Int32)), .val (.int (0 : Int32)), .val (.long v27), .second, .val (.long v39), .second, .val (.long v51), .second, .val (.ref ob_919), .val (.ref ob_921), .val (.ref ob_923), .val (.ref ob_925), .val (.ref vc0), .val (.ref vc1), .val (.ref vc2), .val (.ref b1315), .unset, .unset, .unset, .unset, .unset, .unset] [] X1320 hx hby e0_147_1 rfl rfl ?_
                      refine own_nO X1320 hx hZ hown (wd32 hw) (wd33 hw) (wd34 hw) rfl 152 (hb hby at_149) rfl (by decide) (by decide) fun T1321 h1321 b1321 g1321 X1321 e1321 E1321 A1321 D1321 UN1321 => ?_
                      have ll1321 : @LT.lt Nat _ b1321 (Array.size h1321) := A1321.lt
                      have z1321 := E1321.1
                      have F1322 : fl5 Z h1321 b1321 (.int (0 : Int32)) := D1321 (Or.inl (wd52 hw)) (ty := .int) (by decide)
                      have F1323 : fl7 Z h1321 b1321 .null := D1321 (Or.inl (wd55 hw)) (ty := (.array (.object "java/lang/Object"))) (by decide)
                      have F1324 : fl6 Z h1321 b1321 (.int (0 : Int32)) := D1321 (Or.inl (wd68 hw)) (ty := .int) (by decide)
                      refine own_ru 153 [(.ref b1321), (.ref b1321)] X1321 hx hby e0_152_1 rfl rfl ?_
                      have f1325 := ((f1319.keep K1320 (allS (by omega) all0)).ext E1321)
                      refine own_cN X1321 hx hZ hown rfl (wd35 hw) (wd36 hw) (by decide) (wd37 hw) (wd34 hw) (rm5 l Z a0 hw [] o_EXTRA_HIGH o_HIGH o_ZERO o_DEF kDEF o_pos cl_pos o_neg cl_neg b1321 h1321 n0 (by omega) f1325 A A1321 F1322 F1324 F1323 (by omega)) e1321  [] [(.ref b1321)] 156 1 (hb hby at_153) rfl (by rw [hml]; rfl) rfl rfl (lenOf pd_0 rfl) rfl (by decide) fun v1326 T1326 Lc1326 X1326 hQ1326 => ?_
                      obtain ⟨rfl, N1326q, K1326, G1326_0, G1326_1, G1326_2, G1326_3⟩ := hQ1326
                      have N1326 := Fr.app N1320 N1326q
                      have z1326 := K1326.1
                      have lt1326_0 : @LT.lt Nat _ b1321 (Array.size T1326.heap) := G1326_0.lt
                      refine own_rl 158 #[.val (.int i0), .val (.int i1), .val (.int i2), .val (.int i3), .val (.long i4), .second, .val (.int (3 : Int32)), .val (.int (0 : Int32)), .val (.long v27), .second, .val (.long v39), .second, .val (.long v51), .second, .val (.ref ob_919), .val (.ref ob_921), .val (.ref ob_923), .val (.ref ob_925), .val (.ref vc0), .val (.ref vc1), .val (.ref vc2), .val (.ref b1315), .val (.ref b1321), .unset, .unset, .unset, .unset, .unset] [] X1326 hx hby e0_156_1 rfl rfl ?_
                      refine own_nO X1326 hx hZ hown (wd32 hw) (wd33 hw) (wd34 hw) rfl 161 (hb hby at_158) rfl (by decide) (by decide) fun T1327 h1327 b1327 g1327 X1327 e1327 E1327 A1327 D1327 UN1327 => ?_
                      have ll1327 : @LT.lt Nat _ b1327 (Array.size h1327) := A1327.lt
                      have z1327 := E1327.1
                      have F1328 : fl5 Z h1327 b1327 (.int (0 : Int32)) := D1327 (Or.inl (wd52 hw)) (ty := .int) (by decide)
                      have F1329 : fl7 Z h1327 b1327 .null := D1327 (Or.inl (wd55 hw)) (ty := (.array (.object "java/lang/Object"))) (by decide)
                      have F1330 : fl6 Z h1327 b1327 (.int (0 : Int32)) := D1327 (Or.inl (wd68 hw)) (ty := .int) (by decide)
                      refine own_ru 162 [(.ref b1327), (.ref b1327)] X1327 hx hby e0_161_1 rfl rfl ?_
                      have f1331 := ((f1325.keep K1326 (allS (by omega) all0)).ext E1327)
                      refine own_cN X1327 hx hZ hown rfl (wd35 hw) (wd36 hw) (by decide) (wd37 hw) (wd34 hw) (rm5 l Z a0 hw [] o_EXTRA_HIGH o_HIGH o_ZERO o_DEF kDEF o_pos cl_pos o_neg cl_neg b1327 h1327 n0 (by omega) f1331 A A1327 F1328 F1330 F1329 (by omega)) e1327  [] [(.ref b1327)] 165 1 (hb hby at_162) rfl (by rw [hml]; rfl) rfl rfl (lenOf pd_0 rfl) rfl (by decide) fun v1332 T1332 Lc1332 X1332 hQ1332 => ?_
                      obtain ⟨rfl, N1332q, K1332, G1332_0, G1332_1, G1332_2, G1332_3⟩ := hQ1332
                      have N1332 := Fr.app N1326 N1332q
                      have z1332 := K1332.1
                      have lt1332_0 : @LT.lt Nat _ b1327 (Array.size T1332.heap) := G1332_0.lt
                      refine own_rl 171 #[.val (.int i0), .val (.int i1), .val (.int i2), .val (.int i3), .val (.long i4), .second, .val (.int (3 : Int32)), .val (.int (0 : Int32)), .val (.long v27), .second, .val (.long v39), .second, .val (.long v51), .second, .val (.ref ob_919), .val (.ref ob_921), .val (.ref ob_923), .val (.ref ob_925), .val (.ref vc0), .val (.ref vc1), .val (.ref vc2), .val (.ref b1315), .val (.ref b1321), .val (.ref b1327), .unset, .unset, .unset, .unset] [(.ref ob_925), (.ref b1315)] X1332 hx hby e0_165_3 rfl rfl ?_
                      have f1333 := (f1331.keep K1332 (allS (by omega) all0))
                      have f1334 := (Exa.keep (Exa.ext E1327 (Exa.keep (Exa.ext E1321 G1320_0) K1326)) K1332)
                      have f1335 := ((Fld.ext E1327 ((Fld.ext E1321 G1320_1).keep K1326 (own_nS (by omega) nin0))).keep K1332 (own_nS (by omega) nin0))
                      have f1336 := ((Fld.ext E1327 ((Fld.ext E1321 G1320_2).keep K1326 (own_nS (by omega) nin0))).keep K1332 (own_nS (by omega) nin0))
                      have f1337 := ((Fld.ext E1327 ((Fld.ext E1321 G1320_3).keep K1326 (own_nS (by omega) nin0))).keep K1332 (own_nS (by omega) nin0))
                      have f1338 := (Exa.keep (Exa.ext E1327 (Exa.keep (Exa.ext E1321 (Exa.keep (Exa.ext E1315 FJ928_4) K1320)) K1326)) K1332)
                      have f1339 : Ins Z T1332.heap ob_925 "java/lang/Object" true := (Ins.of_exa f1338 (wd90 hw))
                      refine own_cI X1332 hx hZ hown (wd56 hw) (wd57 hw) (mvT hZ (wd58 hw)) (wd59 hw) (wd60 hw) (wd61 hw) (wd62 hw) (wd63 hw) (by decide) (wd64 hw) (wd34 hw) (rm8z l Z a0 hw [] o_EXTRA_HIGH o_HIGH o_ZERO o_DEF kDEF o_pos cl_pos o_neg cl_neg b1315 ob_925 (0 : Int32) T1332.heap n0 (by omega) f1333 A f1334 f1335 f1336 f1337 f1339 (by omega)) rfl f1334 [(.ref ob_925)] [] 176 0 (hb hby at_171) rfl (by rw [hml]; rfl) rfl rfl (lenOf pd_11 rfl) rfl (by decide) fun v1340 T1340 Lc1340 X1340 hQ1340 => ?_
                      obtain ⟨ar_1340, kk_1340, rfl, N1340q, K1340, G1340_0, G1340_1, G1340_2, G1340_3, G1340_4, U1340_0, U1340_1⟩ := hQ1340
                      have N1340 := Fr.app N1332 N1340q
                      have z1340 := K1340.1
                      have lt1340_0 : @LT.lt Nat _ b1315 (Array.size T1340.heap) := G1340_0.lt
                      have G1340_1' : fl5 Z T1340.heap b1315 (.int (1 : Int32)) := G1340_1
                      have lt1340_4 : @LT.lt Nat _ ar_1340 (Array.size T1340.heap) := G1340_4.lt
                      refine own_ru 181 [(.ref vc0), (.ref b1321)] X1340 hx hby e0_176_3 rfl rfl ?_
                      have f1341 := (f1333.keep K1340 (allS (by omega) all0))
                      have f1342 := (Exa.keep (Exa.keep (Exa.ext E1327 G1326_0) K1332) K1340)
                      have f1343 := (((Fld.ext E1327 G1326_1).keep K1332 (own_nS (by omega) nin0)).keep K1340 (own_nS (by omega) nin0))
                      have f1344 := (((Fld.ext E1327 G1326_2).keep K1332 (own_nS (by omega) nin0)).keep K1340 (own_nS (by omega) nin0))
                      have f1345 := (((Fld.ext E1327 G1326_3).keep K1332 (own_nS (by omega) nin0)).keep K1340 (own_nS (by omega) nin0))
                      have f1346 := (Exa.keep (Exa.keep (Exa.ext E1327 (Exa.keep (Exa.ext E1321 (Exa.keep (Exa.ext E1315 FJ928_5) K1320)) K1326)) K1332) K1340)
                      have f1347 : Ins Z T1340.heap vc0 "java/lang/Object" true := (Ins.of_exa f1346 (wd91 hw))
                      refine own_cI X1340 hx hZ hown (wd56 hw) (wd57 hw) (mvT hZ (wd58 hw)) (wd59 hw) (wd60 hw) (wd61 hw) (wd62 hw) (wd63 hw) (by decide) (wd64 hw) (wd34 hw) (rm8z l Z a0 hw [] o_EXTRA_HIGH o_HIGH o_ZERO o_DEF kDEF o_pos cl_pos o_neg cl_neg b1321 vc0 (0 : Int32) T1340.heap n0 (by omega) f1341 A f1342 f1343 f1344 f1345 f1347 (by omega)) rfl f1342 [(.ref vc0)] [] 186 0 (hb hby at_181) rfl (by rw [hml]; rfl) rfl rfl (lenOf pd_11 rfl) rfl (by decide) fun v1348 T1348 Lc1348 X1348 hQ1348 => ?_
                      obtain ⟨ar_1348, kk_1348, rfl, N1348q, K1348, G1348_0, G1348_1, G1348_2, G1348_3, G1348_4, U1348_0, U1348_1⟩ := hQ1348
                      have N1348 := Fr.app N1340 N1348q
                      have z1348 := K1348.1
                      have lt1348_0 : @LT.lt Nat _ b1321 (Array.size T1348.heap) := G1348_0.lt
                      have G1348_1' : fl5 Z T1348.heap b1321 (.int (1 : Int32)) := G1348_1
                      have lt1348_4 : @LT.lt Nat _ ar_1348 (Array.size T1348.heap) := G1348_4.lt
                      refine own_ru 190 [(.int (2 : Int32)), (.int (3 : Int32))] X1348 hx hby e0_186_3 rfl rfl ?_
                      refine own_kN 193 X1348 hx (hb hby at_190) rfl (flt (by decide : ¬ ((3 : Int32) < (2 : Int32)))).1 rfl ?_
                      refine own_ru 197 [(.ref ob_925), (.ref b1315)] X1348 hx hby e0_193_2 rfl rfl ?_
                      have f1349 := (Exa.keep G1340_0 K1348)
                      have f1350 := (G1340_1'.keep K1348 (own_nS (by omega) nin0))
                      have f1351 := (G1340_2.keep K1348 (own_nS (by omega) nin0))
                      have f1352 := (G1340_3.keep K1348 (own_nS (by omega) nin0))
                      have f1353 := (G1340_4.keep K1348 (own_nS (by omega) nin0))
                      have f1354 := (own_insKeep (own_insKeep f1339 K1340) K1348)
                      refine own_cI X1348 hx hZ hown (wd56 hw) (wd57 hw) (mvT hZ (wd58 hw)) (wd59 hw) (wd60 hw) (wd61 hw) (wd62 hw) (wd63 hw) (by decide) (wd64 hw) (wd34 hw) (rm8s1 l Z a0 hw [] b1315 ob_925 (1 : Int32) ar_1340 kk_1340 [(.ref ob_925), .null, .null, .null, .null, .null, .null, .null, .null, .null] T1348.heap n0 (by omega) f1349 f1350 f1351 f1352 f1353 f1354 (by omega) (by omega) rfl U1340_0 (by first | assumption | decide | omega)) rfl f1349 [(.ref ob_925)] [] 202 0 (hb hby at_197) rfl (by rw [hml]; rfl) rfl rfl (lenOf pd_11 rfl) rfl (by decide) fun v1355 T1355 Lc1355 X1355 hQ1355 => ?_
                      obtain ⟨rfl, N1355q, K1355, G1355_0, G1355_1, G1355_2, G1355_3, G1355_4⟩ := hQ1355
                      have N1355 := Fr.app N1348 N1355q
                      have z1355 := K1355.1
                      have lt1355_0 : @LT.lt Nat _ b1315 (Array.size T1355.heap) := G1355_0.lt
                      have G1355_1' : fl5 Z T1355.heap b1315 (.int (2 : Int32)) := G1355_1
                      have G1355_4' : Arv Z T1355.heap ar_1340 kk_1340 (.object "java/lang/Object") (10 : Int32) [(.ref ob_925), (.ref ob_925), .null, .null, .null, .null, .null, .null, .null, .null] .null := G1355_4
                      have lt1355_4 : @LT.lt Nat _ ar_1340 (Array.size T1355.heap) := G1355_4.lt
                      refine own_ru 207 [(.ref vc1), (.ref b1321)] X1355 hx hby e0_202_3 rfl rfl ?_
                      have f1356 := (Exa.keep G1348_0 K1355)
                      have f1357 := (G1348_1'.keep K1355 (own_nS (by omega) (own_nS (by omega) nin0)))
                      have f1358 := (G1348_2.keep K1355 (own_nS (by omega) (own_nS (by omega) nin0)))
                      have f1359 := (G1348_3.keep K1355 (own_nS (by omega) (own_nS (by omega) nin0)))
                      have f1360 := (G1348_4.keep K1355 (own_nS (by omega) (own_nS (by omega) nin0)))
                      have f1361 := (Exa.keep (Exa.keep (Exa.keep (Exa.keep (Exa.ext E1327 (Exa.keep (Exa.ext E1321 (Exa.keep (Exa.ext E1315 FJ928_6) K1320)) K1326)) K1332) K1340) K1348) K1355)
                      have f1362 : Ins Z T1355.heap vc1 "java/lang/Object" true := (Ins.of_exa f1361 (wd91 hw))
                      refine own_cI X1355 hx hZ hown (wd56 hw) (wd57 hw) (mvT hZ (wd58 hw)) (wd59 hw) (wd60 hw) (wd61 hw) (wd62 hw) (wd63 hw) (by decide) (wd64 hw) (wd34 hw) (rm8s1 l Z a0 hw [] b1321 vc1 (1 : Int32) ar_1348 kk_1348 [(.ref vc0), .null, .null, .null, .null, .null, .null, .null, .null, .null] T1355.heap n0 (by omega) f1356 f1357 f1358 f1359 f1360 f1362 (by omega) (by omega) rfl U1348_0 (by first | assumption | decide | omega)) rfl f1356 [(.ref vc1)] [] 212 0 (hb hby at_207) rfl (by rw [hml]; rfl) rfl rfl (lenOf pd_11 rfl) rfl (by decide) fun v1363 T1363 Lc1363 X1363 hQ1363 => ?_
                      obtain ⟨rfl, N1363q, K1363, G1363_0, G1363_1, G1363_2, G1363_3, G1363_4⟩ := hQ1363
                      have N1363 := Fr.app N1355 N1363q
                      have z1363 := K1363.1
                      have lt1363_0 : @LT.lt Nat _ b1321 (Array.size T1363.heap) := G1363_0.lt
                      have G1363_1' : fl5 Z T1363.heap b1321 (.int (2 : Int32)) := G1363_1
                      have G1363_4' : Arv Z T1363.heap ar_1348 kk_1348 (.object "java/lang/Object") (10 : Int32) [(.ref vc0), (.ref vc1), .null, .null, .null, .null, .null, .null, .null, .null] .null := G1363_4
                      have lt1363_4 : @LT.lt Nat _ ar_1348 (Array.size T1363.heap) := G1363_4.lt
                      refine own_ru 216 [(.int (3 : Int32)), (.int (3 : Int32))] X1363 hx hby e0_212_3 rfl rfl ?_
                      refine own_kN 219 X1363 hx (hb hby at_216) rfl (flt (by decide : ¬ ((3 : Int32) < (3 : Int32)))).1 rfl ?_
                      refine own_ru 223 [(.ref ob_925), (.ref b1315)] X1363 hx hby e0_219_2 rfl rfl ?_
                      have f1364 := (Exa.keep G1355_0 K1363)
                      have f1365 := (G1355_1'.keep K1363 (own_nS (by omega) (own_nS (by omega) nin0)))
                      have f1366 := (G1355_2.keep K1363 (own_nS (by omega) (own_nS (by omega) nin0)))
                      have f1367 := (G1355_3.keep K1363 (own_nS (by omega) (own_nS (by omega) nin0)))
                      have f1368 := (G1355_4'.keep K1363 (own_nS (by omega) (own_nS (by omega) nin0)))
                      have f1369 := (own_insKeep (own_insKeep f1354 K1355) K1363)
                      refine own_cI X1363 hx hZ hown (wd56 hw) (wd57 hw) (mvT hZ (wd58 hw)) (wd59 hw) (wd60 hw) (wd61 hw) (wd62 hw) (wd63 hw) (by decide) (wd64 hw) (wd34 hw) (rm8s2 l Z a0 hw [] b1315 ob_925 (2 : Int32) ar_1340 kk_1340 [(.ref ob_925), (.ref ob_925), .null, .null, .null, .null, .null, .null, .null, .null] T1363.heap n0 (by omega) f1364 f1365 f1366 f1367 f1368 f1369 (by omega) (by omega) rfl U1340_0 (by first | assumption | decide | omega)) rfl f1364 [(.ref ob_925)] [] 228 0 (hb hby at_223) rfl (by rw [hml]; rfl) rfl rfl (lenOf pd_11 rfl) rfl (by decide) fun v1370 T1370 Lc1370 X1370 hQ1370 => ?_
                      obtain ⟨rfl, N1370q, K1370, G1370_0, G1370_1, G1370_2, G1370_3, G1370_4⟩ := hQ1370
                      have N1370 := Fr.app N1363 N1370q
                      have z1370 := K1370.1
                      have lt1370_0 : @LT.lt Nat _ b1315 (Array.size T1370.heap) := G1370_0.lt
                      have G1370_1' : fl5 Z T1370.heap b1315 (.int (3 : Int32)) := G1370_1
                      have G1370_4' : Arv Z T1370.heap ar_1340 kk_1340 (.object "java/lang/Object") (10 : Int32) [(.ref ob_925), (.ref ob_925), (.ref ob_925), .null, .null, .null, .null, .null, .null, .null] .null := G1370_4
                      have lt1370_4 : @LT.lt Nat _ ar_1340 (Array.size T1370.heap) := G1370_4.lt
                      refine own_ru 233 [(.ref vc2), (.ref b1321)] X1370 hx hby e0_228_3 rfl rfl ?_
                      have f1371 := (Exa.keep G1363_0 K1370)
                      have f1372 := (G1363_1'.keep K1370 (own_nS (by omega) (own_nS (by omega) nin0)))
                      have f1373 := (G1363_2.keep K1370 (own_nS (by omega) (own_nS (by omega) nin0)))
                      have f1374 := (G1363_3.keep K1370 (own_nS (by omega) (own_nS (by omega) nin0)))
                      have f1375 := (G1363_4'.keep K1370 (own_nS (by omega) (own_nS (by omega) nin0)))
                      have f1376 := (Exa.keep (Exa.keep (Exa.keep (Exa.keep (Exa.keep (Exa.keep (Exa.ext E1327 (Exa.keep (Exa.ext E1321 (Exa.keep (Exa.ext E1315 FJ928_7) K1320)) K1326)) K1332) K1340) K1348) K1355) K1363) K1370)
                      have f1377 : Ins Z T1370.heap vc2 "java/lang/Object" true := (Ins.of_exa f1376 (wd91 hw))
                      refine own_cI X1370 hx hZ hown (wd56 hw) (wd57 hw) (mvT hZ (wd58 hw)) (wd59 hw) (wd60 hw) (wd61 hw) (wd62 hw) (wd63 hw) (by decide) (wd64 hw) (wd34 hw) (rm8s2 l Z a0 hw [] b1321 vc2 (2 : Int32) ar_1348 kk_1348 [(.ref vc0), (.ref vc1), .null, .null, .null, .null, .null, .null, .null, .null] T1370.heap n0 (by omega) f1371 f1372 f1373 f1374 f1375 f1377 (by omega) (by omega) rfl U1348_0 (by first | assumption | decide | omega)) rfl f1371 [(.ref vc2)] [] 238 0 (hb hby at_233) rfl (by rw [hml]; rfl) rfl rfl (lenOf pd_11 rfl) rfl (by decide) fun v1378 T1378 Lc1378 X1378 hQ1378 => ?_
                      obtain ⟨rfl, N1378q, K1378, G1378_0, G1378_1, G1378_2, G1378_3, G1378_4⟩ := hQ1378
                      have N1378 := Fr.app N1370 N1378q
                      have z1378 := K1378.1
                      have lt1378_0 : @LT.lt Nat _ b1321 (Array.size T1378.heap) := G1378_0.lt
                      have G1378_1' : fl5 Z T1378.heap b1321 (.int (3 : Int32)) := G1378_1
                      have G1378_4' : Arv Z T1378.heap ar_1348 kk_1348 (.object "java/lang/Object") (10 : Int32) [(.ref vc0), (.ref vc1), (.ref vc2), .null, .null, .null, .null, .null, .null, .null] .null := G1378_4
                      have lt1378_4 : @LT.lt Nat _ ar_1348 (Array.size T1378.heap) := G1378_4.lt
                      refine own_ru 241 [(.int (0 : Int32))] X1378 hx hby e0_238_2 rfl rfl ?_
                      refine own_iY 249 X1378 hx (hb hby at_241) rfl ((if0 _ _).trans (teq (by decide : ((0 : Int32) = (0 : Int32)))).1) (by decide) (by decide) ?_
                      refine own_rl 258 #[.val (.int i0), .val (.int i1), .val (.int i2), .val (.int i3), .val (.long i4), .second, .val (.int (3 : Int32)), .val (.int (0 : Int32)), .val (.long v27), .second, .val (.long v39), .second, .val (.long v51), .second, .val (.ref ob_919), .val (.ref ob_921), .val (.ref ob_923), .val (.ref ob_925), .val (.ref vc0), .val (.ref vc1), .val (.ref vc2), .val (.ref b1315), .val (.ref b1321), .val (.ref b1327), .val (.int (2 : Int32)), .unset, .unset, .unset] [(.int (1 : Int32)), (.int (2 : Int32))] X1378 hx hby e0_249_6 rfl rfl ?_
                      refine own_kN 261 X1378 hx (hb hby at_258) rfl (flt (by decide : ¬ ((2 : Int32) < (1 : Int32)))).1 rfl ?_
                      refine own_ru 265 [(.ref ob_919), (.ref b1327)] X1378 hx hby e0_261_2 rfl rfl ?_
                      have f1379 := (((((f1341.keep K1348 (allS (by omega) all0)).keep K1355 (allS (by omega) (allS (by omega) all0))).keep K1363 (allS (by omega) (allS (by omega) all0))).keep K1370 (allS (by omega) (allS (by omega) all0))).keep K1378 (allS (by omega) (allS (by omega) all0)))
                      have f1380 := (Exa.keep (Exa.keep (Exa.keep (Exa.keep (Exa.keep (Exa.keep G1332_0 K1340) K1348) K1355) K1363) K1370) K1378)
                      have f1381 := ((((((G1332_1.keep K1340 (own_nS (by omega) nin0)).keep K1348 (own_nS (by omega) nin0)).keep K1355 (own_nS (by omega) (own_nS (by omega) nin0))).keep K1363 (own_nS (by omega) (own_nS (by omega) nin0))).keep K1370 (own_nS (by omega) (own_nS (by omega) nin0))).keep K1378 (own_nS (by omega) (own_nS (by omega) nin0)))
                      have f1382 := ((((((G1332_2.keep K1340 (own_nS (by omega) nin0)).keep K1348 (own_nS (by omega) nin0)).keep K1355 (own_nS (by omega) (own_nS (by omega) nin0))).keep K1363 (own_nS (by omega) (own_nS (by omega) nin0))).keep K1370 (own_nS (by omega) (own_nS (by omega) nin0))).keep K1378 (own_nS (by omega) (own_nS (by omega) nin0)))
                      have f1383 := ((((((G1332_3.keep K1340 (own_nS (by omega) nin0)).keep K1348 (own_nS (by omega) nin0)).keep K1355 (own_nS (by omega) (own_nS (by omega) nin0))).keep K1363 (own_nS (by omega) (own_nS (by omega) nin0))).keep K1370 (own_nS (by omega) (own_nS (by omega) nin0))).keep K1378 (own_nS (by omega) (own_nS (by omega) nin0)))
                      have f1384 := (Exa.keep (Exa.keep (Exa.keep (Exa.keep (Exa.keep (Exa.keep (Exa.keep (Exa.ext E1327 (Exa.keep (Exa.ext E1321 (Exa.keep (Exa.ext E1315 FJ928_1) K1320)) K1326)) K1332) K1340) K1348) K1355) K1363) K1370) K1378)
                      have f1385 : Ins Z T1378.heap ob_919 "java/lang/Object" true := (Ins.of_exa f1384 (wd90 hw))
                      refine own_cI X1378 hx hZ hown (wd56 hw) (wd57 hw) (mvT hZ (wd58 hw)) (wd59 hw) (wd60 hw) (wd61 hw) (wd62 hw) (wd63 hw) (by decide) (wd64 hw) (wd34 hw) (rm8z l Z a0 hw [] o_EXTRA_HIGH o_HIGH o_ZERO o_DEF kDEF o_pos cl_pos o_neg cl_neg b1327 ob_919 (0 : Int32) T1378.heap n0 (by omega) f1379 A f1380 f1381 f1382 f1383 f1385 (by omega)) rfl f1380 [(.ref ob_919)] [] 270 0 (hb hby at_265) rfl (by rw [hml]; rfl) rfl rfl (lenOf pd_11 rfl) rfl (by decide) fun v1386 T1386 Lc1386 X1386 hQ1386 => ?_
                      obtain ⟨ar_1386, kk_1386, rfl, N1386q, K1386, G1386_0, G1386_1, G1386_2, G1386_3, G1386_4, U1386_0, U1386_1⟩ := hQ1386
                      have N1386 := Fr.app N1378 N1386q
                      have z1386 := K1386.1
                      have lt1386_0 : @LT.lt Nat _ b1327 (Array.size T1386.heap) := G1386_0.lt
                      have G1386_1' : fl5 Z T1386.heap b1327 (.int (1 : Int32)) := G1386_1
                      have lt1386_4 : @LT.lt Nat _ ar_1386 (Array.size T1386.heap) := G1386_4.lt
                      refine own_ru 274 [(.int (2 : Int32)), (.int (2 : Int32))] X1386 hx hby e0_270_3 rfl rfl ?_
                      refine own_kN 277 X1386 hx (hb hby at_274) rfl (flt (by decide : ¬ ((2 : Int32) < (2 : Int32)))).1 rfl ?_
                      refine own_ru 281 [(.ref ob_921), (.ref b1327)] X1386 hx hby e0_277_2 rfl rfl ?_
                      as_aux_lemma =>
                        have f1387 := (Exa.keep (Exa.keep (Exa.keep (Exa.keep (Exa.keep (Exa.keep (Exa.keep (Exa.keep (Exa.ext E1327 (Exa.keep (Exa.ext E1321 (Exa.keep (Exa.ext E1315 FJ928_2) K1320)) K1326)) K1332) K1340) K1348) K1355) K1363) K1370) K1378) K1386)
                        have f1388 : Ins Z T1386.heap ob_921 "java/lang/Object" true := (Ins.of_exa f1387 (wd90 hw))
                        refine own_cI X1386 hx hZ hown (wd56 hw) (wd57 hw) (mvT hZ (wd58 hw)) (wd59 hw) (wd60 hw) (wd61 hw) (wd62 hw) (wd63 hw) (by decide) (wd64 hw) (wd34 hw) (rm8s1 l Z a0 hw [] b1327 ob_921 (1 : Int32) ar_1386 kk_1386 [(.ref ob_919), .null, .null, .null, .null, .null, .null, .null, .null, .null] T1386.heap n0 (by omega) G1386_0 G1386_1' G1386_2 G1386_3 G1386_4 f1388 (by omega) (by omega) rfl U1386_0 (by first | assumption | decide | omega)) rfl G1386_0 [(.ref ob_921)] [] 286 0 (hb hby at_281) rfl (by rw [hml]; rfl) rfl rfl (lenOf pd_11 rfl) rfl (by decide) fun v1389 T1389 Lc1389 X1389 hQ1389 => ?_
                        obtain ⟨rfl, N1389q, K1389, G1389_0, G1389_1, G1389_2, G1389_3, G1389_4⟩ := hQ1389
                        have N1389 := Fr.app N1386 N1389q
                        have z1389 := K1389.1
                        have lt1389_0 : @LT.lt Nat _ b1327 (Array.size T1389.heap) := G1389_0.lt
                        have G1389_1' : fl5 Z T1389.heap b1327 (.int (2 : Int32)) := G1389_1
                        have G1389_4' : Arv Z T1389.heap ar_1386 kk_1386 (.object "java/lang/Object") (10 : Int32) [(.ref ob_919), (.ref ob_921), .null, .null, .null, .null, .null, .null, .null, .null] .null := G1389_4
                        have lt1389_4 : @LT.lt Nat _ ar_1386 (Array.size T1389.heap) := G1389_4.lt
                        refine own_ru 290 [(.int (3 : Int32)), (.int (2 : Int32))] X1389 hx hby e0_286_3 rfl rfl ?_
                        refine own_kY 303 X1389 hx (hb hby at_290) rfl (tlt (by decide : ((2 : Int32) < (3 : Int32)))).1 (by decide) (by decide) ?_
                        refine own_rl 308 #[.val (.int i0), .val (.int i1), .val (.int i2), .val (.int i3), .val (.long i4), .second, .val (.int (3 : Int32)), .val (.int (0 : Int32)), .val (.long v27), .second, .val (.long v39), .second, .val (.long v51), .second, .val (.ref ob_919), .val (.ref ob_921), .val (.ref ob_923), .val (.ref ob_925), .val (.ref vc0), .val (.ref vc1), .val (.ref vc2), .val (.ref b1315), .val (.ref b1321), .val (.ref b1327), .val (.int (2 : Int32)), .val .null, .unset, .unset] [(.int (0 : Int32))] X1389 hx hby e0_303_3 rfl rfl ?_
                        refine own_iY 341 X1389 hx (hb hby at_308) rfl ((if0 _ _).trans (teq (by decide : ((0 : Int32) = (0 : Int32)))).1) (by decide) (by decide) ?_
                        refine own_nO X1389 hx hZ hown (wd92 hw) (wd93 hw) (wd94 hw) rfl 344 (hb hby at_341) rfl (by decide) (by decide) fun T1390 h1390 b1390 g1390 X1390 e1390 E1390 A1390 D1390 UN1390 => ?_
                        have ll1390 : @LT.lt Nat _ b1390 (Array.size h1390) := A1390.lt
                        have z1390 := E1390.1
                        have F1391 : fl14 Z h1390 b1390 .null := D1390 (Or.inr (wd102 hw)) (ty := (.object "java/util/List")) (by decide)
                        refine own_ru 351 [(.ref b1327), (.ref b1321), (.ref b1315), (.ref b1390), (.ref b1390)] X1390 hx hby e0_344_4 rfl rfl ?_
                        have f1392 := (((f1379.keep K1386 (allS (by omega) all0)).keep K1389 (allS (by omega) (allS (by omega) all0))).ext E1390)
                        have f1393 := (Exa.ext E1390 (Exa.keep (Exa.keep (Exa.keep G1370_0 K1378) K1386) K1389))
                        have f1394 := (Fld.ext E1390 (((G1370_2.keep K1378 (own_nS (by omega) (own_nS (by omega) nin0))).keep K1386 (own_nS (by omega) nin0)).keep K1389 (own_nS (by omega) (own_nS (by omega) nin0))))
                        have f1395 := (Fld.ext E1390 (((G1370_3.keep K1378 (own_nS (by omega) (own_nS (by omega) nin0))).keep K1386 (own_nS (by omega) nin0)).keep K1389 (own_nS (by omega) (own_nS (by omega) nin0))))
                        have f1396 := ((((G1370_4'.keep K1378 (own_nS (by omega) (own_nS (by omega) nin0))).keep K1386 (own_nS (by omega) nin0)).keep K1389 (own_nS (by omega) (own_nS (by omega) nin0))).ext E1390)
                        have f1397 := (Exa.ext E1390 (Exa.keep (Exa.keep G1378_0 K1386) K1389))
                        have f1398 := (Fld.ext E1390 ((G1378_2.keep K1386 (own_nS (by omega) nin0)).keep K1389 (own_nS (by omega) (own_nS (by omega) nin0))))
                        have f1399 := (Fld.ext E1390 ((G1378_3.keep K1386 (own_nS (by omega) nin0)).keep K1389 (own_nS (by omega) (own_nS (by omega) nin0))))
                        have f1400 := (((G1378_4'.keep K1386 (own_nS (by omega) nin0)).keep K1389 (own_nS (by omega) (own_nS (by omega) nin0))).ext E1390)
                        have f1401 := (Exa.ext E1390 G1389_0)
                        have f1402 := (Fld.ext E1390 G1389_2)
                        have f1403 := (Fld.ext E1390 G1389_3)
                        have f1404 := (G1389_4'.ext E1390)
                        have f1405 := (Exa.ext E1390 (Exa.keep (Exa.keep (Exa.keep (Exa.keep (Exa.keep (Exa.keep (Exa.keep (Exa.keep f1338 K1340) K1348) K1355) K1363) K1370) K1378) K1386) K1389))
                        have f1406 := (Exa.ext E1390 (Exa.keep (Exa.keep (Exa.keep (Exa.keep (Exa.keep (Exa.keep (Exa.keep f1346 K1348) K1355) K1363) K1370) K1378) K1386) K1389))
                        have f1407 := (Exa.ext E1390 (Exa.keep (Exa.keep (Exa.keep (Exa.keep (Exa.keep f1361 K1363) K1370) K1378) K1386) K1389))
                        have f1408 := (Exa.ext E1390 (Exa.keep (Exa.keep (Exa.keep f1376 K1378) K1386) K1389))
                        have f1409 := (Exa.ext E1390 (Exa.keep (Exa.keep f1384 K1386) K1389))
                        have f1410 := (Exa.ext E1390 (Exa.keep f1387 K1389))
                        refine own_cN X1390 hx hZ hown rfl (wd95 hw) (wd96 hw) (by decide) (wd97 hw) (wd94 hw) (rm13t32 l Z a0 hw [] o_EXTRA_HIGH o_HIGH o_ZERO o_DEF kDEF o_pos cl_pos o_neg cl_neg b1390 b1315 b1321 b1327 ar_1340 kk_1340 ar_1348 kk_1348 ar_1386 kk_1386 ob_925 vc0 vc1 vc2 ob_919 ob_921 h1390 n0 (by omega) f1392 A A1390 F1391 f1393 f1394 f1395 f1396 f1397 f1398 f1399 f1400 f1401 f1402 f1403 f1404 f1405 f1406 f1407 f1408 f1409 f1410 (by omega) (by first | assumption | decide | omega) (by first | assumption | decide | omega) (by first | assumption | decide | omega) (by first | assumption | decide | omega) (by first | assumption | decide | omega) (by first | assumption | decide | omega)) e1390  [(.ref b1315), (.ref b1321), (.ref b1327)] [(.ref b1390)] 354 1 (hb hby at_351) rfl (by rw [hml]; rfl) rfl rfl (lenOf pd_13 rfl) rfl (by decide) fun v1411 T1411 Lc1411 X1411 hQ1411 => ?_
                        obtain ⟨vl_1411, ra_1411, kr_1411, vo0_1411, vo1_1411, vo2_1411, rfl, N1411q, K1411, G1411_0, G1411_1, G1411_2, G1411_3, G1411_4, G1411_5, G1411_6, G1411_7⟩ := hQ1411
                        have N1411 := Fr.app N1389 N1411q
                        have z1411 := K1411.1
                        have lt1411_0 : @LT.lt Nat _ b1390 (Array.size T1411.heap) := G1411_0.lt
                        have lt1411_2 : @LT.lt Nat _ vl_1411 (Array.size T1411.heap) := G1411_2.lt
                        have lt1411_5 : @LT.lt Nat _ ra_1411 (Array.size T1411.heap) := G1411_5.lt
                        have lt1411_6 : @LT.lt Nat _ vo2_1411 (Array.size T1411.heap) := G1411_6.lt
                        refine own_rl 358 #[.val (.int i0), .val (.int i1), .val (.int i2), .val (.int i3), .val (.long i4), .second, .val (.int (3 : Int32)), .val (.int (0 : Int32)), .val (.long v27), .second, .val (.long v39), .second, .val (.long v51), .second, .val (.ref ob_919), .val (.ref ob_921), .val (.ref ob_923), .val (.ref ob_925), .val (.ref vc0), .val (.ref vc1), .val (.ref vc2), .val (.ref b1315), .val (.ref b1321), .val (.ref b1327), .val (.int (2 : Int32)), .val .null, .val (.ref b1390), .unset] [(.ref b1390)] X1411 hx hby e0_354_2 rfl rfl ?_
                        refine own_cV X1411 hx hZ hown (wd160 hw) (wd161 hw) (notFace_of_selects (args := #[]) (mvT hZ (wd163 hw))) (wd163 hw) (wd162 hw) (by decide) (wd164 hw) (wd94 hw) (rm21b3n l Z a0 hw [] b1390 vl_1411 ra_1411 kr_1411 [(.ref vo0_1411), (.ref vo1_1411), (.ref vo2_1411), .null, .null, .null, .null, .null, .null, .null] vo2_1411 T1411.heap n0 (by omega) G1411_0 G1411_1 G1411_2 G1411_3 G1411_4 G1411_5 G1411_6 G1411_7 rfl) rfl G1411_0 [] [] 361 0 (hb hby at_358) rfl (by rw [hml]; rfl) rfl rfl (lenOf pd_14 rfl) rfl (by decide) fun v1412 T1412 Lc1412 X1412 hQ1412 => ?_
                        obtain ⟨rfl, N1412q, e1412⟩ := hQ1412
                        have N1412 := Fr.app N1411 N1412q
                        refine own_rl 365 #[.val (.int i0), .val (.int i1), .val (.int i2), .val (.int i3), .val (.long i4), .second, .val (.int (3 : Int32)), .val (.int (0 : Int32)), .val (.long v27), .second, .val (.long v39), .second, .val (.long v51), .second, .val (.ref ob_919), .val (.ref ob_921), .val (.ref ob_923), .val (.ref ob_925), .val (.ref vc0), .val (.ref vc1), .val (.ref vc2), .val (.ref b1315), .val (.ref b1321), .val (.ref b1327), .val (.int (2 : Int32)), .val .null, .val (.ref b1390), .val .null] [.null] X1412 hx hby e0_361_2 rfl rfl ?_
                        refine own_st 368 [] (fun t k => XS.ifnonnullNo X1412.here hx rfl (hb hby at_365) rfl k) ?_
                        refine own_ru 370 [.null] X1412 hx hby e0_368_1 rfl rfl ?_
                        refine own_st 373 [] (fun t k => XS.ifnonnullNo X1412.here hx rfl (hb hby at_370) rfl k) ?_
                        refine own_ru 374 [(.int (1 : Int32))] X1412 hx hby e0_373_1 rfl rfl ?_
                        refine own_go 378 X1412 hx (hb hby at_374) (by decide) (by decide) ?_
                        have hq1413 : Q0 Z o_EXTRA_HIGH o_HIGH o_ZERO o_DEF kDEF o_pos cl_pos o_neg cl_neg i0 i1 i2 i3 i4 h0 n0 (some (.int (nar .boolean (1 : Int32)))) T1411.heap _ := ⟨rfl, N1412⟩
                        exact own_retN X1412 hx hlk (t := .boolean) hrt (by simp) (hb hby at_378) e1412 hq1413 (by decide) (by decide)
              by_cases hc126 : (((i0.toUInt32 >>> ((7 : Int32) &&& 31).toUInt32).toInt32) &&& (1 : Int32)) = (0 : Int32)
              · refine own_iY 135 XJ927 hx (hb hby at_126) rfl ((if0 _ _).trans (teq hc126).1) (by decide) (by decide) ?_
                have f1414 : Sta Z hJ927 "com/example/tariff/tariff/VoltageClass" "EXTRA_HIGH" "Lcom/example/tariff/tariff/VoltageClass;" (.ref o_EXTRA_HIGH) := Sta.ext FJ927_0.2 (Amb.a0 A)
                refine own_gS XJ927 hx hZ hown (host := "") (Or.inl (wd29 hw)) Via.refl eJ927 f1414 138 (hb hby at_135) rfl fun T1415 X1415 e1415 => ?_
                have f1416 : ex0 Z hJ927 o_EXTRA_HIGH := Exa.ext FJ927_0.2 (Amb.a1 A)
                exact J928 _ _ _ o_EXTRA_HIGH (X1415.more (by decide) (by decide)) e1415 NJ927 (by omega) FJ927_0 FJ927_1 FJ927_2 FJ927_3 FJ927_4 FJ927_5 FJ927_6 f1416 
              · refine own_iN 129 XJ927 hx (hb hby at_126) rfl ((if0 _ _).trans (feq hc126).1) rfl ?_
                have f1417 : Sta Z hJ927 "com/example/tariff/tariff/VoltageClass" "HIGH" "Lcom/example/tariff/tariff/VoltageClass;" (.ref o_HIGH) := Sta.ext FJ927_0.2 (Amb.a2 A)
                refine own_gS XJ927 hx hZ hown (host := "") (Or.inl (wd167 hw)) Via.refl eJ927 f1417 132 (hb hby at_129) rfl fun T1418 X1418 e1418 => ?_
                refine own_go 138 X1418 hx (hb hby at_132) (by decide) (by decide) ?_
                have f1419 : ex0 Z hJ927 o_HIGH := Exa.ext FJ927_0.2 (Amb.a3 A)
                exact J928 _ _ _ o_HIGH (X1418.more (by decide) (by decide)) e1418 NJ927 (by omega) FJ927_0 FJ927_1 FJ927_2 FJ927_3 FJ927_4 FJ927_5 FJ927_6 f1419 
          by_cases hc106 : (((i0.toUInt32 >>> ((6 : Int32) &&& 31).toUInt32).toInt32) &&& (1 : Int32)) = (0 : Int32)
          · refine own_iY 115 XJ926 hx (hb hby at_106) rfl ((if0 _ _).trans (teq hc106).1) (by decide) (by decide) ?_
            have f1420 : Sta Z hJ926 "com/example/tariff/tariff/VoltageClass" "EXTRA_HIGH" "Lcom/example/tariff/tariff/VoltageClass;" (.ref o_EXTRA_HIGH) := Sta.ext FJ926_0.2 (Amb.a0 A)
            refine own_gS XJ926 hx hZ hown (host := "") (Or.inl (wd29 hw)) Via.refl eJ926 f1420 118 (hb hby at_115) rfl fun T1421 X1421 e1421 => ?_
            have f1422 : ex0 Z hJ926 o_EXTRA_HIGH := Exa.ext FJ926_0.2 (Amb.a1 A)
            exact J927 _ _ _ o_EXTRA_HIGH (X1421.more (by decide) (by decide)) e1421 NJ926 (by omega) FJ926_0 FJ926_1 FJ926_2 FJ926_3 FJ926_4 FJ926_5 f1422 
          · refine own_iN 109 XJ926 hx (hb hby at_106) rfl ((if0 _ _).trans (feq hc106).1) rfl ?_
            have f1423 : Sta Z hJ926 "com/example/tariff/tariff/VoltageClass" "HIGH" "Lcom/example/tariff/tariff/VoltageClass;" (.ref o_HIGH) := Sta.ext FJ926_0.2 (Amb.a2 A)
            refine own_gS XJ926 hx hZ hown (host := "") (Or.inl (wd167 hw)) Via.refl eJ926 f1423 112 (hb hby at_109) rfl fun T1424 X1424 e1424 => ?_
            refine own_go 118 X1424 hx (hb hby at_112) (by decide) (by decide) ?_
            have f1425 : ex0 Z hJ926 o_HIGH := Exa.ext FJ926_0.2 (Amb.a3 A)
            exact J927 _ _ _ o_HIGH (X1424.more (by decide) (by decide)) e1424 NJ926 (by omega) FJ926_0 FJ926_1 FJ926_2 FJ926_3 FJ926_4 FJ926_5 f1425 
      by_cases hc86 : (((i0.toUInt32 >>> ((5 : Int32) &&& 31).toUInt32).toInt32) &&& (1 : Int32)) = (0 : Int32)
      · refine own_iY 95 X925 hx (hb hby at_86) rfl ((if0 _ _).trans (teq hc86).1) (by decide) (by decide) ?_
        have f1426 := (f924.keep K925 all0)
        have f1427 : Sta Z T925.heap "com/example/tariff/tariff/VoltageClass" "EXTRA_HIGH" "Lcom/example/tariff/tariff/VoltageClass;" (.ref o_EXTRA_HIGH) := Sta.ext f1426.2 (Amb.a0 A)
        refine own_gS X925 hx hZ hown (host := "") (Or.inl (wd29 hw)) Via.refl rfl f1427 98 (hb hby at_95) rfl fun T1428 X1428 e1428 => ?_
        have f1429 := (Exa.keep (Exa.keep (Exa.keep G919_0 K921) K923) K925)
        have f1430 := (Exa.keep (Exa.keep G921_0 K923) K925)
        have f1431 := (Exa.keep G923_0 K925)
        have f1432 : ex0 Z T925.heap o_EXTRA_HIGH := Exa.ext f1426.2 (Amb.a1 A)
        exact J926 _ _ _ o_EXTRA_HIGH (X1428.more (by decide) (by decide)) e1428 N925 (by omega) f1426 f1429 f1430 f1431 G925_0 f1432 
      · refine own_iN 89 X925 hx (hb hby at_86) rfl ((if0 _ _).trans (feq hc86).1) rfl ?_
        have f1433 := (f924.keep K925 all0)
        have f1434 : Sta Z T925.heap "com/example/tariff/tariff/VoltageClass" "HIGH" "Lcom/example/tariff/tariff/VoltageClass;" (.ref o_HIGH) := Sta.ext f1433.2 (Amb.a2 A)
        refine own_gS X925 hx hZ hown (host := "") (Or.inl (wd167 hw)) Via.refl rfl f1434 92 (hb hby at_89) rfl fun T1435 X1435 e1435 => ?_
        refine own_go 98 X1435 hx (hb hby at_92) (by decide) (by decide) ?_
        have f1436 := (Exa.keep (Exa.keep (Exa.keep G919_0 K921) K923) K925)
        have f1437 := (Exa.keep (Exa.keep G921_0 K923) K925)
        have f1438 := (Exa.keep G923_0 K925)
        have f1439 : ex0 Z T925.heap o_HIGH := Exa.ext f1433.2 (Amb.a3 A)
        exact J926 _ _ _ o_HIGH (X1435.more (by decide) (by decide)) e1435 N925 (by omega) f1433 f1436 f1437 f1438 G925_0 f1439 
  by_cases hc15 : (((i0.toUInt32 >>> ((4 : Int32) &&& 31).toUInt32).toInt32) &&& (1 : Int32)) = (0 : Int32)
  · refine own_iY 22 X0 hx (hb hby at_15) rfl ((if0 _ _).trans (teq hc15).1) (by decide) (by decide) ?_
    refine own_ru 23 [(.int (0 : Int32))] X0 hx hby e0_22_1 rfl rfl ?_
    exact J918 (0 : Int32) (Or.inr rfl)
  · refine own_iN 18 X0 hx (hb hby at_15) rfl ((if0 _ _).trans (feq hc15).1) rfl ?_
    refine own_ru 19 [(.int (1 : Int32))] X0 hx hby e0_18_1 rfl rfl ?_
    refine own_go 23 X0 hx (hb hby at_19) (by decide) (by decide) ?_
    exact J918 (1 : Int32) (Or.inl rfl)
set_option maxRecDepth 65536 in
set_option maxHeartbeats 40000000 in
theorem comes_1 {Post : Tables → Env → Array Value → State → Outcome → State → Prop} (hpost : ∀ tb e args s v u, (limb_1_1.after args s (.returned v) u = true ∧ limb_1_2.after args s (.returned v) u = true ∧ True) → FrameEnd s (.returned v) u (Jvm.fieldLocs frame_1_writes args s ++ Jvm.arrayLocs frame_1_arrays args s ++ Jvm.staticLocs frame_1_statics s) 48 256 → Post tb e args s (.returned v) u) :
    ArmFor flags0 classFile x code maxLocals ret World_1 tables_1 room_1 Calls_1 rest_1 Pre_1 Post := by
  intro l hfl _ _ p e ha hc hk s m args below hf hA hF happ hP
  obtain ⟨hcalls, hrest, hpre⟩ := hP
  obtain ⟨-, -, -, hnamed, -, -, -, hat⟩ := (Spec.applies_iff hf).mp happ
  obtain ⟨hg, hn⟩ := and_e (Cond.before_iff.mp (show (Jvm.Cond.and given_1 narrow_1).before args s = true from hpre))
  obtain ⟨gg1, gg2⟩ := and_e hg
  obtain ⟨gg3, gg4⟩ := and_e gg2
  obtain ⟨gg5, gg6⟩ := and_e gg4
  obtain ⟨gg7, gg8⟩ := and_e gg6
  obtain ⟨gg9, gg10⟩ := and_e gg8
  obtain ⟨w0, w1, w2, w3, w4, rfl⟩ : ∃ w0 w1 w2 w3 w4 : Value, args = #[w0, w1, w2, w3, w4] := by
    have hs : args.size = 5 := by simpa [Cond.value, given_1] using gg1
    obtain ⟨L⟩ := args
    match L, hs with
    | [w0, w1, w2, w3, w4], _ => exact ⟨w0, w1, w2, w3, w4, rfl⟩
  have hw := fun d (hd : d ∈ tables_1) => atoms_spec (ws := Jvm.Cond.code x code maxLocals ret :: tables_1) hat d (List.mem_cons_of_mem _ hd)
  have hfit : Fit s := fun {y c} hc i hi => by
    obtain ⟨ha, rfl⟩ := Array.getElem?_eq_some_iff.mp hc
    have q := List.all_eq_true.mp ((Array.all_eq_true_iff_forall_mem.mp hF) _ (Array.getElem_mem ha)) i (List.mem_range.mpr hi)
    simpa [Array.getElem?_eq_getElem hi] using q
  obtain ⟨i0, ei0⟩ := is_v gg3
  obtain rfl : w0 = (.int i0) := Option.some.inj ei0
  obtain ⟨i1, ei1⟩ := is_v gg5
  obtain rfl : w1 = (.int i1) := Option.some.inj ei1
  obtain ⟨i2, ei2⟩ := is_v gg7
  obtain rfl : w2 = (.int i2) := Option.some.inj ei2
  obtain ⟨i3, ei3⟩ := is_v gg9
  obtain rfl : w3 = (.int i3) := Option.some.inj ei3
  obtain ⟨i4, ei4⟩ := isL_v gg10
  obtain rfl : w4 = (.long i4) := Option.some.inj ei4
  obtain ⟨hsets, hown0⟩ := atoms_of _ (rest_1_c_eq ▸ (show rest_1_c.before _ s = true from hrest))
  have hn0 := hn
  obtain ⟨hA1, hB1⟩ := and_e hn0
  obtain ⟨o_EXTRA_HIGH, eo_EXTRA_HIGH⟩ := exa_v hA1
  obtain ⟨o_HIGH, eo_HIGH⟩ := exa_v hB1
  obtain ⟨o_ZERO, eZERO⟩ := exa_v (Cond.before_iff.mp (hsets _ (List.mem_of_getElem? (i := 225) rfl)))
  obtain ⟨o_DEF, eDEF⟩ := arr_v (Cond.before_iff.mp (hsets _ (List.mem_of_getElem? (i := 116) rfl)))
  obtain ⟨clDEF, ADEF⟩ := Arr.start eDEF (Cond.before_iff.mp (hsets _ (List.mem_of_getElem? (i := 116) rfl)))
  obtain ⟨kDEF, ekDEF⟩ : ∃ z, z = clDEF.cls := ⟨_, rfl⟩
  obtain ⟨o_pos, e_pos⟩ := arr_v (Cond.before_iff.mp (hsets _ (List.mem_of_getElem? (i := 8) rfl)))
  obtain ⟨cl_pos, A_pos⟩ := Arr.start e_pos (Cond.before_iff.mp (hsets _ (List.mem_of_getElem? (i := 8) rfl)))
  obtain ⟨o_neg, e_neg⟩ := arr_v (Cond.before_iff.mp (hsets _ (List.mem_of_getElem? (i := 123) rfl)))
  obtain ⟨cl_neg, A_neg⟩ := Arr.start e_neg (Cond.before_iff.mp (hsets _ (List.mem_of_getElem? (i := 123) rfl)))
  have M0 : Sta s s.heap "com/example/tariff/tariff/VoltageClass" "EXTRA_HIGH" "Lcom/example/tariff/tariff/VoltageClass;" (.ref o_EXTRA_HIGH) := Sta.start eo_EXTRA_HIGH (Or.inr ⟨hw _ (List.mem_of_getElem? (i := 30) rfl), hw _ (List.mem_of_getElem? (i := 31) rfl)⟩)
  have M1 : ex0 s s.heap o_EXTRA_HIGH := Exa.start eo_EXTRA_HIGH hA1
  have M2 : Sta s s.heap "com/example/tariff/tariff/VoltageClass" "HIGH" "Lcom/example/tariff/tariff/VoltageClass;" (.ref o_HIGH) := Sta.start eo_HIGH (Or.inr ⟨hw _ (List.mem_of_getElem? (i := 30) rfl), hw _ (List.mem_of_getElem? (i := 168) rfl)⟩)
  have M3 : ex0 s s.heap o_HIGH := Exa.start eo_HIGH hB1
  have M4 : Sta s s.heap "java/math/BigInteger" "ZERO" "Ljava/math/BigInteger;" (.ref o_ZERO) := Sta.start eZERO (Or.inl (hsets _ (List.mem_of_getElem? (i := 224) rfl)))
  have M5 : ex1 s s.heap o_ZERO := Exa.start eZERO (Cond.before_iff.mp (hsets _ (List.mem_of_getElem? (i := 225) rfl)))
  have M6 : Sta s s.heap "java/util/ArrayList" "DEFAULTCAPACITY_EMPTY_ELEMENTDATA" "[Ljava/lang/Object;" (.ref o_DEF) := Sta.start eDEF (Or.inr ⟨hw _ (List.mem_of_getElem? (i := 34) rfl), (hsets _ (List.mem_of_getElem? (i := 112) rfl))⟩)
  have M7 : Arv s s.heap o_DEF kDEF (.object "java/lang/Object") (0 : Int32) [] .null := by rw [ekDEF]; exact own_arv hfit eDEF ADEF (own_eqI (Cond.before_iff.mp (hsets _ (List.mem_of_getElem? (i := 118) rfl))) (Term.int_eval _)) (by decide) rfl trivial
  have M8 : Sta s s.heap "java/math/BigInteger" "posConst" "[Ljava/math/BigInteger;" (.ref o_pos) := Sta.start e_pos (Or.inl (hsets _ (List.mem_of_getElem? (i := 1) rfl)))
  have M9 : Sta s s.heap "java/math/BigInteger" "negConst" "[Ljava/math/BigInteger;" (.ref o_neg) := Sta.start e_neg (Or.inl (hsets _ (List.mem_of_getElem? (i := 120) rfl)))
  have MP0 : own_cst s o_pos cl_pos := own_cstOf e_pos A_pos (own_eqI (Cond.before_iff.mp (hsets _ (List.mem_of_getElem? (i := 10) rfl))) (Term.int_eval _)) (Cond.before_iff.mp (hsets _ (List.mem_of_getElem? (i := 12) rfl))) (Cond.before_iff.mp (hsets _ (List.mem_of_getElem? (i := 19) rfl))) (Cond.before_iff.mp (hsets _ (List.mem_of_getElem? (i := 25) rfl))) (Cond.before_iff.mp (hsets _ (List.mem_of_getElem? (i := 31) rfl))) (Cond.before_iff.mp (hsets _ (List.mem_of_getElem? (i := 37) rfl))) (Cond.before_iff.mp (hsets _ (List.mem_of_getElem? (i := 43) rfl))) (Cond.before_iff.mp (hsets _ (List.mem_of_getElem? (i := 49) rfl))) (Cond.before_iff.mp (hsets _ (List.mem_of_getElem? (i := 55) rfl))) (Cond.before_iff.mp (hsets _ (List.mem_of_getElem? (i := 61) rfl))) (Cond.before_iff.mp (hsets _ (List.mem_of_getElem? (i := 68) rfl))) (Cond.before_iff.mp (hsets _ (List.mem_of_getElem? (i := 74) rfl))) (Cond.before_iff.mp (hsets _ (List.mem_of_getElem? (i := 80) rfl))) (Cond.before_iff.mp (hsets _ (List.mem_of_getElem? (i := 86) rfl))) (Cond.before_iff.mp (hsets _ (List.mem_of_getElem? (i := 92) rfl))) (Cond.before_iff.mp (hsets _ (List.mem_of_getElem? (i := 98) rfl))) (Cond.before_iff.mp (hsets _ (List.mem_of_getElem? (i := 104) rfl)))
  have MP1 : own_cst s o_neg cl_neg := own_cstOf e_neg A_neg (own_eqI (Cond.before_iff.mp (hsets _ (List.mem_of_getElem? (i := 125) rfl))) (Term.int_eval _)) (Cond.before_iff.mp (hsets _ (List.mem_of_getElem? (i := 127) rfl))) (Cond.before_iff.mp (hsets _ (List.mem_of_getElem? (i := 133) rfl))) (Cond.before_iff.mp (hsets _ (List.mem_of_getElem? (i := 139) rfl))) (Cond.before_iff.mp (hsets _ (List.mem_of_getElem? (i := 145) rfl))) (Cond.before_iff.mp (hsets _ (List.mem_of_getElem? (i := 151) rfl))) (Cond.before_iff.mp (hsets _ (List.mem_of_getElem? (i := 157) rfl))) (Cond.before_iff.mp (hsets _ (List.mem_of_getElem? (i := 163) rfl))) (Cond.before_iff.mp (hsets _ (List.mem_of_getElem? (i := 169) rfl))) (Cond.before_iff.mp (hsets _ (List.mem_of_getElem? (i := 175) rfl))) (Cond.before_iff.mp (hsets _ (List.mem_of_getElem? (i := 181) rfl))) (Cond.before_iff.mp (hsets _ (List.mem_of_getElem? (i := 187) rfl))) (Cond.before_iff.mp (hsets _ (List.mem_of_getElem? (i := 193) rfl))) (Cond.before_iff.mp (hsets _ (List.mem_of_getElem? (i := 199) rfl))) (Cond.before_iff.mp (hsets _ (List.mem_of_getElem? (i := 205) rfl))) (Cond.before_iff.mp (hsets _ (List.mem_of_getElem? (i := 211) rfl))) (Cond.before_iff.mp (hsets _ (List.mem_of_getElem? (i := 217) rfl)))
  have AM : Amb s o_EXTRA_HIGH o_HIGH o_ZERO o_DEF kDEF o_pos cl_pos o_neg cl_neg := ⟨M0, M1, M2, M3, M4, M5, M6, M7, M8, M9, MP0, MP1, trivial⟩
  obtain ⟨n, o, h1, h2, h3, _, L, rfl, ⟨rfl, N⟩, hq⟩ := rm0 l s _ hw tables_1 o_EXTRA_HIGH o_HIGH o_ZERO o_DEF kDEF o_pos cl_pos o_neg cl_neg i0 i1 i2 i3 i4 s.heap s.heap.size (Nat.le_refl _) (Old.start s) AM p e ha hc hk s m _ below hf ((Spec.applies_iff_loose hf).mp happ).1 ⟨rfl, State.Warmed39.refl s, rfl⟩ trivial
  refine ⟨n, _, h1, h2, h3, hpost _ _ _ _ _ _ ⟨Cond.after_iff.mpr rfl, Cond.after_iff.mpr (eq_i res_at (Term.int_eval (1)) rfl), trivial⟩ ⟨hq.1, hq.2.1, (hq.2.2.sift fun y hy => Or.inr (N y hy)).mono (by decide) (by decide)⟩⟩
theorem main_1_1 : Claimed_1_1 := comes_1 fun _ _ _ _ _ _ h hF => ⟨h.1, hF⟩
theorem main_1_2 : Claimed_1_2 := comes_1 fun _ _ _ _ _ _ h hF => ⟨h.2.1, hF⟩
end Jvm.Pilot.@@N@@
namespace Jvm.Pilot.@@N@@
open Jvm Jvm.ClassFile Sem Op Lib Jvm.Free Jvm.Stand Jvm.Pilot.@@N@@.Jvm.D
/-! MADE BY PROGRAM (witnessworld.py) out of the Statement's table words and the real class files: 29 classes; the members and pool entries that the words name. The judged class is class 1, her method 1. -/
namespace start1
open Jvm.ClassFile
def u (s : String) : CpInfo := .utf8 (stringToUtf16 s)
/-- a pool by its gaps: so many unusable entries, then the entry; so many at the end -/
def gap : Nat → List CpInfo → List CpInfo
  | 0, r => r
  | n + 1, r => .unusable :: gap n r
def poolList (es : List (Nat × CpInfo)) (last : Nat) : List CpInfo := es.foldr (fun e r => gap e.1 (e.2 :: r)) (gap last [])
def pool (es : List (Nat × CpInfo)) (last : Nat) : Array CpInfo := ⟨poolList es last⟩
def fileOf (pool : Array CpInfo) (this : Nat) (attrs : Array Attribute := #[]) (ms : Array MethodInfo := #[]) (fl : Nat := 33) (sup : Nat := 0) (ifs : Array Nat := #[]) (fds : Array FieldInfo := #[]) : ClassFile where
  minorVersion := 0
  majorVersion := 65
  constantPool := pool
  accessFlags := fl
  thisClass := this
  superClass := sup
  interfaces := ifs
  fields := fds
  methods := ms
  attributes := attrs
def plain (name : String) (sup : Option ClassId) : Class where
  name := name
  kind := .ordinary
  loader := none
  accessFlags := 33
  super := sup
  interfaces := #[]
  cf := none
  fields := #[]
  methods := #[]
  instanceTypes := #[]
  staticTypes := #[]
  resolved := #[]
  callSites := []
  init := .initialized
  statics := none
  mirror := none

def pool0 : Array CpInfo := pool [(5, u "<init>"), (0, u "()V"), (1, .class_ 10), (1, u "java/lang/Object")] 113

def k0c0 : Code := { maxStack := 0, maxLocals := 1, code := object_method_1_code, exceptionTable := #[], attributes := #[] }
def k0m0 : Method := { name := "<init>", desc := "()V", sig := { parameters := [], returnType := none }, accessFlags := 1, code := some k0c0 }
/-- java/lang/Object -/
def k0 : Class := { plain "java/lang/Object" none with
  accessFlags := 33
  interfaces := #[]
  cf := some (fileOf pool0 8 #[] #[{ accessFlags := 1, nameIndex := 5, descriptorIndex := 6, attributes := #[] }] 33 0 #[] #[])
  fields := #[]
  methods := #[k0m0]
  instanceTypes := #[]
  staticTypes := #[]
  resolved := Array.replicate 124 none
  statics := none }

def pool1 : Array CpInfo := pool [(2, .class_ 4), (0, .nameAndType 5 6), (0, u "java/lang/Object"), (0, u "<init>"), (0, u "()V"), (0, .integer 2147483647), (0, .integer 65535), (0, .methodref 10 11), (0, .class_ 12), (0, .nameAndType 13 14), (0, u "java/math/BigInteger"), (0, u "valueOf"), (0, u "(J)Ljava/math/BigInteger;"), (0, .fieldref 16 17), (0, .class_ 18), (0, .nameAndType 19 20), (0, u "com/example/tariff/tariff/VoltageClass"), (0, u "HIGH"), (0, u "Lcom/example/tariff/tariff/VoltageClass;"), (0, .fieldref 16 22), (0, .nameAndType 23 20), (0, u "EXTRA_HIGH"), (0, .class_ 25), (0, u "java/util/ArrayList"), (0, .methodref 24 3), (0, .interfaceMethodref 28 29), (0, .class_ 30), (0, .nameAndType 31 32), (0, u "java/util/List"), (0, u "add"), (0, u "(Ljava/lang/Object;)Z"), (0, .class_ 34), (0, u "com/example/tariff/tariff/SupplyVoltages"), (0, .methodref 33 36), (0, .nameAndType 5 37), (0, u "(Ljava/util/List;Ljava/util/List;Ljava/util/List;)V"), (0, .methodref 33 39), (0, .nameAndType 40 41), (0, u "below"), (0, u "()Ljava/math/BigInteger;"), (0, .methodref 10 43), (0, .nameAndType 44 32), (0, u "equals"), (0, .class_ 46), (0, u "com/example/tariff/tariff/SupplyVoltagesBelowPinLaw"), (2, u "law"), (0, u "(IIIIJ)Z")] 3

def k1m0 : Method := { name := "<init>", desc := "()V", sig := { parameters := [], returnType := none }, accessFlags := 1, code := none }
def k1c1 : Code := { maxStack := 5, maxLocals := 28, code := code, exceptionTable := #[], attributes := #[] }
def k1m1 : Method := { name := "law", desc := "(IIIIJ)Z", sig := { parameters := [.int, .int, .int, .int, .long], returnType := some .boolean }, accessFlags := 9, code := some k1c1 }
/-- com/example/tariff/tariff/SupplyVoltagesBelowPinLaw -/
def k1 : Class := { plain "com/example/tariff/tariff/SupplyVoltagesBelowPinLaw" (some 0) with
  accessFlags := 49
  interfaces := #[]
  cf := some (fileOf pool1 45 #[] #[{ accessFlags := 1, nameIndex := 5, descriptorIndex := 6, attributes := #[] }, { accessFlags := 9, nameIndex := 49, descriptorIndex := 50, attributes := #[] }] 49 2 #[] #[])
  fields := #[]
  methods := #[k1m0, k1m1]
  instanceTypes := #[]
  staticTypes := #[]
  resolved := Array.replicate 54 none
  statics := none }

def pool2 : Array CpInfo := pool [(1, .class_ 2), (0, u "java/io/Serializable"), (0, .class_ 4), (0, u "java/lang/Object")] 2

/-- java/io/Serializable -/
def k2 : Class := { plain "java/io/Serializable" (some 0) with
  accessFlags := 1537
  interfaces := #[]
  cf := some (fileOf pool2 1 #[] #[] 1537 3 #[] #[])
  fields := #[]
  methods := #[]
  instanceTypes := #[]
  staticTypes := #[]
  resolved := Array.replicate 7 none
  statics := none }

def pool3 : Array CpInfo := pool [(1, .methodref 2 3), (0, .class_ 4), (0, .nameAndType 5 6), (0, u "java/lang/Object"), (0, u "<init>"), (0, u "()V"), (1, .class_ 10), (1, u "java/lang/Number"), (2, .class_ 14), (0, u "java/io/Serializable"), (0, u "serialVersionUID"), (0, u "J")] 20

def k3c0 : Code := { maxStack := 1, maxLocals := 1, code := jdk_18_method_1_code, exceptionTable := #[], attributes := #[] }
def k3m0 : Method := { name := "<init>", desc := "()V", sig := { parameters := [], returnType := none }, accessFlags := 1, code := some k3c0 }
/-- java/lang/Number -/
def k3 : Class := { plain "java/lang/Number" (some 0) with
  accessFlags := 1057
  interfaces := #[2]
  cf := some (fileOf pool3 8 #[] #[{ accessFlags := 1, nameIndex := 5, descriptorIndex := 6, attributes := #[] }] 1057 2 #[13] #[{ accessFlags := 26, nameIndex := 15, descriptorIndex := 16, attributes := #[] }])
  fields := #[{ name := "serialVersionUID", type := .long, accessFlags := 26, slot := 0, constantValue := 0 }]
  methods := #[k3m0]
  instanceTypes := #[]
  staticTypes := #[.long]
  resolved := Array.replicate 37 none
  statics := none }

def pool4 : Array CpInfo := pool [(1, .class_ 2), (0, u "java/lang/Comparable"), (0, .class_ 4), (0, u "java/lang/Object")] 7

/-- java/lang/Comparable -/
def k4 : Class := { plain "java/lang/Comparable" (some 0) with
  accessFlags := 1537
  interfaces := #[]
  cf := some (fileOf pool4 1 #[] #[] 1537 3 #[] #[])
  fields := #[]
  methods := #[]
  instanceTypes := #[]
  staticTypes := #[]
  resolved := Array.replicate 12 none
  statics := none }

def pool5 : Array CpInfo := pool [(3, .methodref 4 5), (0, .class_ 6), (0, .nameAndType 7 8), (0, u "java/lang/Number"), (0, u "<init>"), (0, u "()V"), (13, .fieldref 23 24), (0, .class_ 25), (0, .nameAndType 26 27), (0, u "java/math/BigInteger"), (0, u "ZERO"), (0, u "Ljava/math/BigInteger;"), (0, .fieldref 23 29), (0, .nameAndType 30 31), (0, u "mag"), (0, u "[I"), (0, .fieldref 23 33), (0, .nameAndType 34 35), (0, u "signum"), (0, u "I"), (59, u "bitsPerDigit"), (0, u "[J"), (9, u "digitsPerInt"), (12, u "intRadix"), (60, u "SMALL_PRIME_PRODUCT"), (56, u "valueOf"), (0, u "(J)Ljava/math/BigInteger;"), (21, u "ONE"), (2, u "equals"), (0, u "(Ljava/lang/Object;)Z"), (2, u "TWO"), (43, u "$assertionsDisabled"), (0, u "Z"), (32, .long 16), (1, .fieldref 23 348), (0, .nameAndType 349 350), (0, u "posConst"), (0, u "[Ljava/math/BigInteger;"), (0, .long 18446744073709551600), (1, .fieldref 23 354), (0, .nameAndType 355 350), (0, u "negConst"), (0, .methodref 23 357), (0, .nameAndType 7 358), (0, u "(J)V"), (113, .class_ 474), (1, u "java/math/BigInteger$RecursiveOp"), (106, u "NEGATIVE_ONE"), (91, u "bnExpModThreshTable"), (72, u "lowestSetBitPlusTwo"), (2, u "bitLengthPlusOne"), (2, u "bitCountPlusOne"), (6, u "LOG_TWO"), (0, u "D"), (2, u "logCache"), (0, u "[D"), (13, u "NUM_ZEROS"), (2, u "ZEROS"), (0, u "Ljava/lang/String;"), (9, u "longRadix"), (5, u "digitsPerLong"), (22, u "powerCache"), (0, u "[[Ljava/math/BigInteger;"), (45, u "firstNonzeroIntNumPlusTwo"), (38, .class_ 909), (1, u "java/math/BigInteger$UnsafeHolder"), (141, u "TEN"), (106, u "serialPersistentFields"), (0, u "[Ljava/io/ObjectStreamField;"), (0, .class_ 1161), (0, u "java/lang/Comparable"), (0, u "LONG_MASK"), (0, u "J"), (1, u "MAX_MAG_LENGTH"), (0, u "PRIME_SEARCH_BIT_LENGTH_LIMIT"), (1, u "KARATSUBA_THRESHOLD"), (1, u "TOOM_COOK_THRESHOLD"), (1, u "KARATSUBA_SQUARE_THRESHOLD"), (1, u "TOOM_COOK_SQUARE_THRESHOLD"), (1, u "BURNIKEL_ZIEGLER_THRESHOLD"), (0, u "BURNIKEL_ZIEGLER_OFFSET"), (1, u "SCHOENHAGE_BASE_CONVERSION_THRESHOLD"), (1, u "MULTIPLY_SQUARE_THRESHOLD"), (0, u "MONTGOMERY_INTRINSIC_THRESHOLD"), (1, u "SMALL_PRIME_THRESHOLD"), (1, u "DEFAULT_PRIME_CERTAINTY"), (1, u "MAX_CONSTANT"), (3, u "serialVersionUID"), (338, .class_ 1532), (0, u "java/math/BigInteger$RecursiveOp$RecursiveSquare"), (0, .class_ 1534), (0, u "java/math/BigInteger$RecursiveOp$RecursiveMultiply")] 7

def k5c0 : Code := { maxStack := 4, maxLocals := 2, code := jdk_2097_method_29_code, exceptionTable := #[], attributes := #[] }
def k5m0 : Method := { name := "valueOf", desc := "(J)Ljava/math/BigInteger;", sig := { parameters := [.long], returnType := some (.object "java/math/BigInteger") }, accessFlags := 9, code := some k5c0 }
def k5c1 : Code := { maxStack := 4, maxLocals := 4, code := jdk_2097_method_30_code, exceptionTable := #[], attributes := #[] }
def k5m1 : Method := { name := "<init>", desc := "(J)V", sig := { parameters := [.long], returnType := none }, accessFlags := 2, code := some k5c1 }
def k5c2 : Code := { maxStack := 3, maxLocals := 7, code := jdk_2097_method_124_code, exceptionTable := #[], attributes := #[] }
def k5m2 : Method := { name := "equals", desc := "(Ljava/lang/Object;)Z", sig := { parameters := [(.object "java/lang/Object")], returnType := some .boolean }, accessFlags := 1, code := some k5c2 }
/-- java/math/BigInteger -/
def k5 : Class := { plain "java/math/BigInteger" (some 3) with
  accessFlags := 33
  interfaces := #[4]
  cf := some (fileOf pool5 23 #[.nestMembers #[907, 472, 1531, 1533]] #[{ accessFlags := 9, nameIndex := 237, descriptorIndex := 238, attributes := #[] }, { accessFlags := 2, nameIndex := 7, descriptorIndex := 358, attributes := #[] }, { accessFlags := 1, nameIndex := 263, descriptorIndex := 264, attributes := #[] }] 33 4 #[1160] #[{ accessFlags := 16, nameIndex := 34, descriptorIndex := 35, attributes := #[] }, { accessFlags := 16, nameIndex := 30, descriptorIndex := 31, attributes := #[] }, { accessFlags := 2, nameIndex := 752, descriptorIndex := 35, attributes := #[] }, { accessFlags := 2, nameIndex := 749, descriptorIndex := 35, attributes := #[] }, { accessFlags := 2, nameIndex := 746, descriptorIndex := 35, attributes := #[] }, { accessFlags := 2, nameIndex := 868, descriptorIndex := 35, attributes := #[] }, { accessFlags := 24, nameIndex := 1162, descriptorIndex := 1163, attributes := #[] }, { accessFlags := 26, nameIndex := 1165, descriptorIndex := 35, attributes := #[] }, { accessFlags := 26, nameIndex := 1166, descriptorIndex := 35, attributes := #[] }, { accessFlags := 26, nameIndex := 1168, descriptorIndex := 35, attributes := #[] }, { accessFlags := 26, nameIndex := 1170, descriptorIndex := 35, attributes := #[] }, { accessFlags := 26, nameIndex := 1172, descriptorIndex := 35, attributes := #[] }, { accessFlags := 26, nameIndex := 1174, descriptorIndex := 35, attributes := #[] }, { accessFlags := 24, nameIndex := 1176, descriptorIndex := 35, attributes := #[] }, { accessFlags := 24, nameIndex := 1177, descriptorIndex := 35, attributes := #[] }, { accessFlags := 26, nameIndex := 1179, descriptorIndex := 35, attributes := #[] }, { accessFlags := 26, nameIndex := 1181, descriptorIndex := 35, attributes := #[] }, { accessFlags := 26, nameIndex := 1182, descriptorIndex := 35, attributes := #[] }, { accessFlags := 10, nameIndex := 95, descriptorIndex := 96, attributes := #[] }, { accessFlags := 26, nameIndex := 1184, descriptorIndex := 35, attributes := #[] }, { accessFlags := 26, nameIndex := 1186, descriptorIndex := 35, attributes := #[] }, { accessFlags := 26, nameIndex := 180, descriptorIndex := 27, attributes := #[] }, { accessFlags := 26, nameIndex := 1188, descriptorIndex := 35, attributes := #[] }, { accessFlags := 26, nameIndex := 349, descriptorIndex := 350, attributes := #[] }, { accessFlags := 26, nameIndex := 355, descriptorIndex := 350, attributes := #[] }, { accessFlags := 74, nameIndex := 821, descriptorIndex := 822, attributes := #[] }, { accessFlags := 26, nameIndex := 763, descriptorIndex := 764, attributes := #[] }, { accessFlags := 26, nameIndex := 759, descriptorIndex := 760, attributes := #[] }, { accessFlags := 25, nameIndex := 26, descriptorIndex := 27, attributes := #[] }, { accessFlags := 25, nameIndex := 260, descriptorIndex := 27, attributes := #[] }, { accessFlags := 25, nameIndex := 267, descriptorIndex := 27, attributes := #[] }, { accessFlags := 26, nameIndex := 581, descriptorIndex := 27, attributes := #[] }, { accessFlags := 25, nameIndex := 1051, descriptorIndex := 27, attributes := #[] }, { accessFlags := 8, nameIndex := 673, descriptorIndex := 31, attributes := #[] }, { accessFlags := 10, nameIndex := 778, descriptorIndex := 35, attributes := #[] }, { accessFlags := 26, nameIndex := 781, descriptorIndex := 782, attributes := #[] }, { accessFlags := 10, nameIndex := 798, descriptorIndex := 31, attributes := #[] }, { accessFlags := 10, nameIndex := 792, descriptorIndex := 350, attributes := #[] }, { accessFlags := 10, nameIndex := 106, descriptorIndex := 31, attributes := #[] }, { accessFlags := 10, nameIndex := 119, descriptorIndex := 31, attributes := #[] }, { accessFlags := 26, nameIndex := 1192, descriptorIndex := 1163, attributes := #[] }, { accessFlags := 26, nameIndex := 1158, descriptorIndex := 1159, attributes := #[] }, { accessFlags := 4120, nameIndex := 311, descriptorIndex := 312, attributes := #[] }])
  fields := #[{ name := "signum", type := .int, accessFlags := 16, slot := 0, constantValue := 0 }, { name := "mag", type := (.array .int), accessFlags := 16, slot := 1, constantValue := 0 }, { name := "bitCountPlusOne", type := .int, accessFlags := 2, slot := 2, constantValue := 0 }, { name := "bitLengthPlusOne", type := .int, accessFlags := 2, slot := 3, constantValue := 0 }, { name := "lowestSetBitPlusTwo", type := .int, accessFlags := 2, slot := 4, constantValue := 0 }, { name := "firstNonzeroIntNumPlusTwo", type := .int, accessFlags := 2, slot := 5, constantValue := 0 }, { name := "LONG_MASK", type := .long, accessFlags := 24, slot := 0, constantValue := 0 }, { name := "MAX_MAG_LENGTH", type := .int, accessFlags := 26, slot := 1, constantValue := 0 }, { name := "PRIME_SEARCH_BIT_LENGTH_LIMIT", type := .int, accessFlags := 26, slot := 2, constantValue := 0 }, { name := "KARATSUBA_THRESHOLD", type := .int, accessFlags := 26, slot := 3, constantValue := 0 }, { name := "TOOM_COOK_THRESHOLD", type := .int, accessFlags := 26, slot := 4, constantValue := 0 }, { name := "KARATSUBA_SQUARE_THRESHOLD", type := .int, accessFlags := 26, slot := 5, constantValue := 0 }, { name := "TOOM_COOK_SQUARE_THRESHOLD", type := .int, accessFlags := 26, slot := 6, constantValue := 0 }, { name := "BURNIKEL_ZIEGLER_THRESHOLD", type := .int, accessFlags := 24, slot := 7, constantValue := 0 }, { name := "BURNIKEL_ZIEGLER_OFFSET", type := .int, accessFlags := 24, slot := 8, constantValue := 0 }, { name := "SCHOENHAGE_BASE_CONVERSION_THRESHOLD", type := .int, accessFlags := 26, slot := 9, constantValue := 0 }, { name := "MULTIPLY_SQUARE_THRESHOLD", type := .int, accessFlags := 26, slot := 10, constantValue := 0 }, { name := "MONTGOMERY_INTRINSIC_THRESHOLD", type := .int, accessFlags := 26, slot := 11, constantValue := 0 }, { name := "bitsPerDigit", type := (.array .long), accessFlags := 10, slot := 12, constantValue := 0 }, { name := "SMALL_PRIME_THRESHOLD", type := .int, accessFlags := 26, slot := 13, constantValue := 0 }, { name := "DEFAULT_PRIME_CERTAINTY", type := .int, accessFlags := 26, slot := 14, constantValue := 0 }, { name := "SMALL_PRIME_PRODUCT", type := (.object "java/math/BigInteger"), accessFlags := 26, slot := 15, constantValue := 0 }, { name := "MAX_CONSTANT", type := .int, accessFlags := 26, slot := 16, constantValue := 0 }, { name := "posConst", type := (.array (.object "java/math/BigInteger")), accessFlags := 26, slot := 17, constantValue := 0 }, { name := "negConst", type := (.array (.object "java/math/BigInteger")), accessFlags := 26, slot := 18, constantValue := 0 }, { name := "powerCache", type := (.array (.array (.object "java/math/BigInteger"))), accessFlags := 74, slot := 19, constantValue := 0 }, { name := "logCache", type := (.array .double), accessFlags := 26, slot := 20, constantValue := 0 }, { name := "LOG_TWO", type := .double, accessFlags := 26, slot := 21, constantValue := 0 }, { name := "ZERO", type := (.object "java/math/BigInteger"), accessFlags := 25, slot := 22, constantValue := 0 }, { name := "ONE", type := (.object "java/math/BigInteger"), accessFlags := 25, slot := 23, constantValue := 0 }, { name := "TWO", type := (.object "java/math/BigInteger"), accessFlags := 25, slot := 24, constantValue := 0 }, { name := "NEGATIVE_ONE", type := (.object "java/math/BigInteger"), accessFlags := 26, slot := 25, constantValue := 0 }, { name := "TEN", type := (.object "java/math/BigInteger"), accessFlags := 25, slot := 26, constantValue := 0 }, { name := "bnExpModThreshTable", type := (.array .int), accessFlags := 8, slot := 27, constantValue := 0 }, { name := "NUM_ZEROS", type := .int, accessFlags := 10, slot := 28, constantValue := 0 }, { name := "ZEROS", type := (.object "java/lang/String"), accessFlags := 26, slot := 29, constantValue := 0 }, { name := "digitsPerLong", type := (.array .int), accessFlags := 10, slot := 30, constantValue := 0 }, { name := "longRadix", type := (.array (.object "java/math/BigInteger")), accessFlags := 10, slot := 31, constantValue := 0 }, { name := "digitsPerInt", type := (.array .int), accessFlags := 10, slot := 32, constantValue := 0 }, { name := "intRadix", type := (.array .int), accessFlags := 10, slot := 33, constantValue := 0 }, { name := "serialVersionUID", type := .long, accessFlags := 26, slot := 34, constantValue := 0 }, { name := "serialPersistentFields", type := (.array (.object "java/io/ObjectStreamField")), accessFlags := 26, slot := 35, constantValue := 0 }, { name := "$assertionsDisabled", type := .boolean, accessFlags := 4120, slot := 36, constantValue := 0 }]
  methods := #[k5m0, k5m1, k5m2]
  instanceTypes := #[.int, (.array .int), .int, .int, .int, .int]
  staticTypes := #[.long, .int, .int, .int, .int, .int, .int, .int, .int, .int, .int, .int, (.array .long), .int, .int, (.object "java/math/BigInteger"), .int, (.array (.object "java/math/BigInteger")), (.array (.object "java/math/BigInteger")), (.array (.array (.object "java/math/BigInteger"))), (.array .double), .double, (.object "java/math/BigInteger"), (.object "java/math/BigInteger"), (.object "java/math/BigInteger"), (.object "java/math/BigInteger"), (.object "java/math/BigInteger"), (.array .int), .int, (.object "java/lang/String"), (.array .int), (.array (.object "java/math/BigInteger")), (.array .int), (.array .int), .long, (.array (.object "java/io/ObjectStreamField")), .boolean]
  resolved := Array.replicate 1542 none
  statics := some 0 }

def pool6 : Array CpInfo := pool [(1, .class_ 2), (0, u "java/lang/constant/Constable"), (0, .class_ 4), (0, u "java/lang/Object")] 6

/-- java/lang/constant/Constable -/
def k6 : Class := { plain "java/lang/constant/Constable" (some 0) with
  accessFlags := 1537
  interfaces := #[]
  cf := some (fileOf pool6 1 #[] #[] 1537 3 #[] #[])
  fields := #[]
  methods := #[]
  instanceTypes := #[]
  staticTypes := #[]
  resolved := Array.replicate 11 none
  statics := none }

def pool7 : Array CpInfo := pool [(2, .class_ 4), (1, u "java/lang/Enum"), (0, u "name"), (0, u "Ljava/lang/String;"), (2, u "ordinal"), (0, u "I"), (1, .class_ 14), (1, u "java/lang/Object"), (4, u "hash"), (86, .class_ 108), (1, u "java/lang/Enum$EnumDesc"), (2, .class_ 112), (0, u "java/lang/constant/Constable"), (0, .class_ 114), (0, u "java/lang/Comparable"), (0, .class_ 116), (0, u "java/io/Serializable")] 87

/-- java/lang/Enum -/
def k7 : Class := { plain "java/lang/Enum" (some 0) with
  accessFlags := 1057
  interfaces := #[6, 4, 2]
  cf := some (fileOf pool7 2 #[.nestMembers #[106]] #[] 1057 12 #[111, 113, 115] #[{ accessFlags := 18, nameIndex := 5, descriptorIndex := 6, attributes := #[] }, { accessFlags := 18, nameIndex := 9, descriptorIndex := 10, attributes := #[] }, { accessFlags := 2, nameIndex := 19, descriptorIndex := 10, attributes := #[] }])
  fields := #[{ name := "name", type := (.object "java/lang/String"), accessFlags := 18, slot := 0, constantValue := 0 }, { name := "ordinal", type := .int, accessFlags := 18, slot := 1, constantValue := 0 }, { name := "hash", type := .int, accessFlags := 2, slot := 2, constantValue := 0 }]
  methods := #[]
  instanceTypes := #[(.object "java/lang/String"), .int, .int]
  staticTypes := #[]
  resolved := Array.replicate 204 none
  statics := none }

def pool8 : Array CpInfo := pool [(1, .class_ 2), (0, u "com/example/tariff/tariff/VoltageClass"), (2, u "HIGH"), (0, u "Lcom/example/tariff/tariff/VoltageClass;"), (2, u "EXTRA_HIGH"), (2, u "$VALUES"), (0, u "[Lcom/example/tariff/tariff/VoltageClass;"), (6, .class_ 22), (1, u "java/lang/Enum"), (8, u "key"), (0, u "Ljava/lang/String;"), (2, u "words")] 30

/-- com/example/tariff/tariff/VoltageClass -/
def k8 : Class := { plain "com/example/tariff/tariff/VoltageClass" (some 7) with
  accessFlags := 16432
  interfaces := #[]
  cf := some (fileOf pool8 1 #[] #[] 16432 20 #[] #[{ accessFlags := 16409, nameIndex := 5, descriptorIndex := 6, attributes := #[] }, { accessFlags := 16409, nameIndex := 9, descriptorIndex := 6, attributes := #[] }, { accessFlags := 18, nameIndex := 31, descriptorIndex := 32, attributes := #[] }, { accessFlags := 18, nameIndex := 35, descriptorIndex := 32, attributes := #[] }, { accessFlags := 4122, nameIndex := 12, descriptorIndex := 13, attributes := #[] }])
  fields := #[{ name := "HIGH", type := (.object "com/example/tariff/tariff/VoltageClass"), accessFlags := 16409, slot := 0, constantValue := 0 }, { name := "EXTRA_HIGH", type := (.object "com/example/tariff/tariff/VoltageClass"), accessFlags := 16409, slot := 1, constantValue := 0 }, { name := "key", type := (.object "java/lang/String"), accessFlags := 18, slot := 3, constantValue := 0 }, { name := "words", type := (.object "java/lang/String"), accessFlags := 18, slot := 4, constantValue := 0 }, { name := "$VALUES", type := (.array (.object "com/example/tariff/tariff/VoltageClass")), accessFlags := 4122, slot := 2, constantValue := 0 }]
  methods := #[]
  instanceTypes := #[(.object "java/lang/String"), .int, .int, (.object "java/lang/String"), (.object "java/lang/String")]
  staticTypes := #[(.object "com/example/tariff/tariff/VoltageClass"), (.object "com/example/tariff/tariff/VoltageClass"), (.array (.object "com/example/tariff/tariff/VoltageClass"))]
  resolved := Array.replicate 66 none
  statics := some 1 }

def pool9 : Array CpInfo := pool [(8, .class_ 10), (1, u "java/lang/Iterable"), (24, .class_ 36), (0, u "java/lang/Object")] 25

/-- java/lang/Iterable -/
def k9 : Class := { plain "java/lang/Iterable" (some 0) with
  accessFlags := 1537
  interfaces := #[]
  cf := some (fileOf pool9 8 #[] #[] 1537 35 #[] #[])
  fields := #[]
  methods := #[]
  instanceTypes := #[]
  staticTypes := #[]
  resolved := Array.replicate 62 none
  statics := none }

def pool10 : Array CpInfo := pool [(10, .class_ 12), (1, u "java/util/Collection"), (47, .class_ 61), (0, u "java/lang/Object"), (0, .class_ 63), (0, u "java/lang/Iterable")] 51

/-- java/util/Collection -/
def k10 : Class := { plain "java/util/Collection" (some 0) with
  accessFlags := 1537
  interfaces := #[9]
  cf := some (fileOf pool10 10 #[] #[] 1537 60 #[62] #[])
  fields := #[]
  methods := #[]
  instanceTypes := #[]
  staticTypes := #[]
  resolved := Array.replicate 115 none
  statics := none }

def pool11 : Array CpInfo := pool [(1, .methodref 2 3), (0, .class_ 4), (0, .nameAndType 5 6), (0, u "java/lang/Object"), (0, u "<init>"), (0, u "()V"), (1, .class_ 10), (1, u "java/util/AbstractCollection"), (66, .class_ 78), (0, u "java/util/Collection")] 81

def k11c0 : Code := { maxStack := 1, maxLocals := 1, code := jdk_22_method_1_code, exceptionTable := #[], attributes := #[] }
def k11m0 : Method := { name := "<init>", desc := "()V", sig := { parameters := [], returnType := none }, accessFlags := 4, code := some k11c0 }
/-- java/util/AbstractCollection -/
def k11 : Class := { plain "java/util/AbstractCollection" (some 0) with
  accessFlags := 1057
  interfaces := #[10]
  cf := some (fileOf pool11 8 #[] #[{ accessFlags := 4, nameIndex := 5, descriptorIndex := 6, attributes := #[] }] 1057 2 #[77] #[])
  fields := #[]
  methods := #[k11m0]
  instanceTypes := #[]
  staticTypes := #[]
  resolved := Array.replicate 160 none
  statics := none }

def pool12 : Array CpInfo := pool [(8, .class_ 10), (1, u "java/util/SequencedCollection"), (15, .class_ 27), (0, u "java/lang/Object"), (0, .class_ 29), (0, u "java/util/Collection")] 27

/-- java/util/SequencedCollection -/
def k12 : Class := { plain "java/util/SequencedCollection" (some 0) with
  accessFlags := 1537
  interfaces := #[10]
  cf := some (fileOf pool12 8 #[] #[] 1537 26 #[28] #[])
  fields := #[]
  methods := #[]
  instanceTypes := #[]
  staticTypes := #[]
  resolved := Array.replicate 57 none
  statics := none }

def pool13 : Array CpInfo := pool [(8, .class_ 10), (1, u "java/util/List"), (7, u "()Z"), (41, u "add"), (3, u "(Ljava/lang/Object;)Z"), (2, u "isEmpty"), (7, u "get"), (0, u "(I)Ljava/lang/Object;"), (2, u "size"), (0, u "()I"), (22, .class_ 104), (0, u "java/lang/Object"), (15, .class_ 121), (0, u "java/util/SequencedCollection")] 129

def k13m0 : Method := { name := "size", desc := "()I", sig := { parameters := [], returnType := some .int }, accessFlags := 1025, code := none }
def k13m1 : Method := { name := "isEmpty", desc := "()Z", sig := { parameters := [], returnType := some .boolean }, accessFlags := 1025, code := none }
def k13m2 : Method := { name := "add", desc := "(Ljava/lang/Object;)Z", sig := { parameters := [(.object "java/lang/Object")], returnType := some .boolean }, accessFlags := 1025, code := none }
def k13m3 : Method := { name := "get", desc := "(I)Ljava/lang/Object;", sig := { parameters := [.int], returnType := some (.object "java/lang/Object") }, accessFlags := 1025, code := none }
/-- java/util/List -/
def k13 : Class := { plain "java/util/List" (some 0) with
  accessFlags := 1537
  interfaces := #[12]
  cf := some (fileOf pool13 8 #[] #[{ accessFlags := 1025, nameIndex := 79, descriptorIndex := 80, attributes := #[] }, { accessFlags := 1025, nameIndex := 67, descriptorIndex := 18, attributes := #[] }, { accessFlags := 1025, nameIndex := 60, descriptorIndex := 64, attributes := #[] }, { accessFlags := 1025, nameIndex := 75, descriptorIndex := 76, attributes := #[] }] 1537 103 #[120] #[])
  fields := #[]
  methods := #[k13m0, k13m1, k13m2, k13m3]
  instanceTypes := #[]
  staticTypes := #[]
  resolved := Array.replicate 251 none
  statics := none }

def pool14 : Array CpInfo := pool [(1, .methodref 2 3), (0, .class_ 4), (0, .nameAndType 5 6), (0, u "java/util/AbstractCollection"), (0, u "<init>"), (0, u "()V"), (0, .fieldref 8 9), (0, .class_ 10), (0, .nameAndType 11 12), (0, u "java/util/AbstractList"), (0, u "modCount"), (0, u "I"), (64, .class_ 78), (0, u "java/util/AbstractList$Itr"), (3, .class_ 83), (0, u "java/util/AbstractList$ListItr"), (9, .class_ 94), (0, u "java/util/AbstractList$RandomAccessSubList"), (3, .class_ 99), (0, u "java/util/AbstractList$SubList"), (33, .class_ 134), (0, u "java/util/List"), (73, .class_ 209), (0, u "java/util/AbstractList$SubList$1"), (0, .class_ 211), (0, u "java/util/AbstractList$RandomAccessSpliterator")] 6

def k14c0 : Code := { maxStack := 2, maxLocals := 1, code := jdk_39_method_1_code, exceptionTable := #[], attributes := #[] }
def k14m0 : Method := { name := "<init>", desc := "()V", sig := { parameters := [], returnType := none }, accessFlags := 4, code := some k14c0 }
/-- java/util/AbstractList -/
def k14 : Class := { plain "java/util/AbstractList" (some 11) with
  accessFlags := 1057
  interfaces := #[13]
  cf := some (fileOf pool14 8 #[.nestMembers #[93, 98, 208, 210, 82, 77]] #[{ accessFlags := 4, nameIndex := 5, descriptorIndex := 6, attributes := #[] }] 1057 2 #[133] #[{ accessFlags := 132, nameIndex := 11, descriptorIndex := 12, attributes := #[] }])
  fields := #[{ name := "modCount", type := .int, accessFlags := 132, slot := 0, constantValue := 0 }]
  methods := #[k14m0]
  instanceTypes := #[.int]
  staticTypes := #[]
  resolved := Array.replicate 218 none
  statics := none }

def pool15 : Array CpInfo := pool [(1, .class_ 2), (0, u "java/util/RandomAccess"), (0, .class_ 4), (0, u "java/lang/Object")] 2

/-- java/util/RandomAccess -/
def k15 : Class := { plain "java/util/RandomAccess" (some 0) with
  accessFlags := 1537
  interfaces := #[]
  cf := some (fileOf pool15 1 #[] #[] 1537 3 #[] #[])
  fields := #[]
  methods := #[]
  instanceTypes := #[]
  staticTypes := #[]
  resolved := Array.replicate 7 none
  statics := none }

def pool16 : Array CpInfo := pool [(1, .class_ 2), (0, u "java/lang/Cloneable"), (0, .class_ 4), (0, u "java/lang/Object")] 2

/-- java/lang/Cloneable -/
def k16 : Class := { plain "java/lang/Cloneable" (some 0) with
  accessFlags := 1537
  interfaces := #[]
  cf := some (fileOf pool16 1 #[] #[] 1537 3 #[] #[])
  fields := #[]
  methods := #[]
  instanceTypes := #[]
  staticTypes := #[]
  resolved := Array.replicate 7 none
  statics := none }

def pool17 : Array CpInfo := pool [(1, .methodref 2 3), (0, .class_ 4), (0, .nameAndType 5 6), (0, u "java/util/AbstractList"), (0, u "<init>"), (0, u "()V"), (0, .class_ 8), (0, u "java/lang/Object"), (0, .fieldref 10 11), (0, .class_ 12), (0, .nameAndType 13 14), (0, u "java/util/ArrayList"), (0, u "elementData"), (0, u "[Ljava/lang/Object;"), (2, u "EMPTY_ELEMENTDATA"), (21, .fieldref 10 40), (0, .nameAndType 41 14), (0, u "DEFAULTCAPACITY_EMPTY_ELEMENTDATA"), (5, u "()[Ljava/lang/Object;"), (0, .fieldref 10 49), (0, .nameAndType 50 51), (0, u "size"), (0, u "I"), (11, .fieldref 10 64), (0, .nameAndType 65 51), (0, u "modCount"), (3, .methodref 10 70), (0, .nameAndType 71 72), (0, u "grow"), (0, u "(I)[Ljava/lang/Object;"), (6, .methodref 80 81), (0, .class_ 82), (0, .nameAndType 83 84), (0, u "java/lang/Math"), (0, u "max"), (0, u "(II)I"), (11, u "(Ljava/lang/Object;)Z"), (21, .methodref 119 120), (0, .class_ 121), (0, .nameAndType 122 84), (0, u "java/util/Objects"), (0, u "checkIndex"), (0, .methodref 10 124), (0, .nameAndType 13 125), (0, u "(I)Ljava/lang/Object;"), (3, .methodref 10 130), (0, .nameAndType 71 47), (0, .methodref 10 132), (0, .nameAndType 133 134), (0, u "add"), (0, u "(Ljava/lang/Object;[Ljava/lang/Object;I)V"), (13, .class_ 149), (0, u "java/util/List"), (23, u "()Z"), (12, u "()I"), (75, .class_ 263), (0, u "java/util/ArrayList$ListItr"), (3, .class_ 268), (0, u "java/util/ArrayList$Itr"), (7, .class_ 277), (0, u "java/util/ArrayList$SubList"), (12, .class_ 291), (0, u "java/util/ArrayList$ArrayListSpliterator"), (37, .class_ 330), (0, u "java/util/RandomAccess"), (0, .class_ 332), (0, u "java/lang/Cloneable"), (0, .class_ 334), (0, u "java/io/Serializable"), (0, u "serialVersionUID"), (0, u "J"), (3, u "DEFAULT_CAPACITY"), (22, u "isEmpty"), (17, u "get"), (118, .class_ 501), (0, u "java/util/ArrayList$SubList$2"), (0, .class_ 503), (0, u "java/util/ArrayList$SubList$1")] 5

def k17c0 : Code := { maxStack := 2, maxLocals := 1, code := jdk_38_method_2_code, exceptionTable := #[], attributes := #[] }
def k17m0 : Method := { name := "<init>", desc := "()V", sig := { parameters := [], returnType := none }, accessFlags := 1, code := some k17c0 }
def k17c1 : Code := { maxStack := 4, maxLocals := 4, code := jdk_38_method_6_code, exceptionTable := #[], attributes := #[] }
def k17m1 : Method := { name := "grow", desc := "(I)[Ljava/lang/Object;", sig := { parameters := [.int], returnType := some (.array (.object "java/lang/Object")) }, accessFlags := 2, code := some k17c1 }
def k17c2 : Code := { maxStack := 3, maxLocals := 1, code := jdk_38_method_7_code, exceptionTable := #[], attributes := #[] }
def k17m2 : Method := { name := "grow", desc := "()[Ljava/lang/Object;", sig := { parameters := [], returnType := some (.array (.object "java/lang/Object")) }, accessFlags := 2, code := some k17c2 }
def k17c3 : Code := { maxStack := 1, maxLocals := 1, code := jdk_38_method_8_code, exceptionTable := #[], attributes := #[] }
def k17m3 : Method := { name := "size", desc := "()I", sig := { parameters := [], returnType := some .int }, accessFlags := 1, code := some k17c3 }
def k17c4 : Code := { maxStack := 1, maxLocals := 1, code := jdk_38_method_9_code, exceptionTable := #[], attributes := #[] }
def k17m4 : Method := { name := "isEmpty", desc := "()Z", sig := { parameters := [], returnType := some .boolean }, accessFlags := 1, code := some k17c4 }
def k17c5 : Code := { maxStack := 2, maxLocals := 2, code := jdk_38_method_18_code, exceptionTable := #[], attributes := #[] }
def k17m5 : Method := { name := "elementData", desc := "(I)Ljava/lang/Object;", sig := { parameters := [.int], returnType := some (.object "java/lang/Object") }, accessFlags := 0, code := some k17c5 }
def k17c6 : Code := { maxStack := 2, maxLocals := 2, code := jdk_38_method_20_code, exceptionTable := #[], attributes := #[] }
def k17m6 : Method := { name := "get", desc := "(I)Ljava/lang/Object;", sig := { parameters := [.int], returnType := some (.object "java/lang/Object") }, accessFlags := 1, code := some k17c6 }
def k17c7 : Code := { maxStack := 3, maxLocals := 4, code := jdk_38_method_24_code, exceptionTable := #[], attributes := #[] }
def k17m7 : Method := { name := "add", desc := "(Ljava/lang/Object;[Ljava/lang/Object;I)V", sig := { parameters := [(.object "java/lang/Object"), (.array (.object "java/lang/Object")), .int], returnType := none }, accessFlags := 2, code := some k17c7 }
def k17c8 : Code := { maxStack := 4, maxLocals := 2, code := jdk_38_method_25_code, exceptionTable := #[], attributes := #[] }
def k17m8 : Method := { name := "add", desc := "(Ljava/lang/Object;)Z", sig := { parameters := [(.object "java/lang/Object")], returnType := some .boolean }, accessFlags := 1, code := some k17c8 }
/-- java/util/ArrayList -/
def k17 : Class := { plain "java/util/ArrayList" (some 14) with
  accessFlags := 33
  interfaces := #[13, 15, 16, 2]
  cf := some (fileOf pool17 10 #[.nestMembers #[290, 276, 500, 502, 262, 267]] #[{ accessFlags := 1, nameIndex := 5, descriptorIndex := 6, attributes := #[] }, { accessFlags := 2, nameIndex := 71, descriptorIndex := 72, attributes := #[] }, { accessFlags := 2, nameIndex := 71, descriptorIndex := 47, attributes := #[] }, { accessFlags := 1, nameIndex := 50, descriptorIndex := 186, attributes := #[] }, { accessFlags := 1, nameIndex := 363, descriptorIndex := 173, attributes := #[] }, { accessFlags := 0, nameIndex := 13, descriptorIndex := 125, attributes := #[] }, { accessFlags := 1, nameIndex := 381, descriptorIndex := 125, attributes := #[] }, { accessFlags := 2, nameIndex := 133, descriptorIndex := 134, attributes := #[] }, { accessFlags := 1, nameIndex := 133, descriptorIndex := 96, attributes := #[] }] 33 2 #[148, 329, 331, 333] #[{ accessFlags := 26, nameIndex := 335, descriptorIndex := 336, attributes := #[] }, { accessFlags := 26, nameIndex := 340, descriptorIndex := 51, attributes := #[] }, { accessFlags := 26, nameIndex := 17, descriptorIndex := 14, attributes := #[] }, { accessFlags := 26, nameIndex := 41, descriptorIndex := 14, attributes := #[] }, { accessFlags := 128, nameIndex := 13, descriptorIndex := 14, attributes := #[] }, { accessFlags := 2, nameIndex := 50, descriptorIndex := 51, attributes := #[] }])
  fields := #[{ name := "serialVersionUID", type := .long, accessFlags := 26, slot := 0, constantValue := 0 }, { name := "DEFAULT_CAPACITY", type := .int, accessFlags := 26, slot := 1, constantValue := 0 }, { name := "EMPTY_ELEMENTDATA", type := (.array (.object "java/lang/Object")), accessFlags := 26, slot := 2, constantValue := 0 }, { name := "DEFAULTCAPACITY_EMPTY_ELEMENTDATA", type := (.array (.object "java/lang/Object")), accessFlags := 26, slot := 3, constantValue := 0 }, { name := "elementData", type := (.array (.object "java/lang/Object")), accessFlags := 128, slot := 1, constantValue := 0 }, { name := "size", type := .int, accessFlags := 2, slot := 2, constantValue := 0 }]
  methods := #[k17m0, k17m1, k17m2, k17m3, k17m4, k17m5, k17m6, k17m7, k17m8]
  instanceTypes := #[.int, (.array (.object "java/lang/Object")), .int]
  staticTypes := #[.long, .int, (.array (.object "java/lang/Object")), (.array (.object "java/lang/Object"))]
  resolved := Array.replicate 509 none
  statics := some 2 }

def pool18 : Array CpInfo := pool [(1, .class_ 2), (0, u "java/lang/Math"), (1, .class_ 6), (1, u "java/lang/Object"), (0, u "<init>"), (0, u "()V"), (89, .class_ 100), (1, u "java/lang/Math$RandomNumberGeneratorHolder"), (71, u "negativeZeroFloatBits"), (0, u "J"), (2, u "negativeZeroDoubleBits"), (21, u "max"), (46, u "$assertionsDisabled"), (0, u "Z"), (88, u "(II)I"), (2, u "twoToTheDoubleScaleDown"), (0, u "D"), (4, u "twoToTheDoubleScaleUp"), (9, u "E"), (3, u "PI"), (2, u "TAU"), (2, u "DEGREES_TO_RADIANS"), (0, u "RADIANS_TO_DEGREES")] 94

def k18m0 : Method := { name := "<init>", desc := "()V", sig := { parameters := [], returnType := none }, accessFlags := 2, code := none }
def k18c1 : Code := { maxStack := 2, maxLocals := 2, code := jdk_29_method_65_code, exceptionTable := #[], attributes := #[] }
def k18m1 : Method := { name := "max", desc := "(II)I", sig := { parameters := [.int, .int], returnType := some .int }, accessFlags := 9, code := some k18c1 }
/-- java/lang/Math -/
def k18 : Class := { plain "java/lang/Math" (some 0) with
  accessFlags := 49
  interfaces := #[]
  cf := some (fileOf pool18 1 #[.nestMembers #[98]] #[{ accessFlags := 2, nameIndex := 7, descriptorIndex := 8, attributes := #[] }, { accessFlags := 9, nameIndex := 198, descriptorIndex := 335, attributes := #[] }] 49 4 #[] #[{ accessFlags := 25, nameIndex := 354, descriptorIndex := 339, attributes := #[] }, { accessFlags := 25, nameIndex := 358, descriptorIndex := 339, attributes := #[] }, { accessFlags := 25, nameIndex := 361, descriptorIndex := 339, attributes := #[] }, { accessFlags := 26, nameIndex := 364, descriptorIndex := 339, attributes := #[] }, { accessFlags := 26, nameIndex := 365, descriptorIndex := 339, attributes := #[] }, { accessFlags := 26, nameIndex := 172, descriptorIndex := 173, attributes := #[] }, { accessFlags := 26, nameIndex := 176, descriptorIndex := 173, attributes := #[] }, { accessFlags := 8, nameIndex := 344, descriptorIndex := 339, attributes := #[] }, { accessFlags := 8, nameIndex := 338, descriptorIndex := 339, attributes := #[] }, { accessFlags := 4120, nameIndex := 245, descriptorIndex := 246, attributes := #[] }])
  fields := #[{ name := "E", type := .double, accessFlags := 25, slot := 0, constantValue := 0 }, { name := "PI", type := .double, accessFlags := 25, slot := 1, constantValue := 0 }, { name := "TAU", type := .double, accessFlags := 25, slot := 2, constantValue := 0 }, { name := "DEGREES_TO_RADIANS", type := .double, accessFlags := 26, slot := 3, constantValue := 0 }, { name := "RADIANS_TO_DEGREES", type := .double, accessFlags := 26, slot := 4, constantValue := 0 }, { name := "negativeZeroFloatBits", type := .long, accessFlags := 26, slot := 5, constantValue := 0 }, { name := "negativeZeroDoubleBits", type := .long, accessFlags := 26, slot := 6, constantValue := 0 }, { name := "twoToTheDoubleScaleUp", type := .double, accessFlags := 8, slot := 7, constantValue := 0 }, { name := "twoToTheDoubleScaleDown", type := .double, accessFlags := 8, slot := 8, constantValue := 0 }, { name := "$assertionsDisabled", type := .boolean, accessFlags := 4120, slot := 9, constantValue := 0 }]
  methods := #[k18m0, k18m1]
  instanceTypes := #[]
  staticTypes := #[.double, .double, .double, .double, .double, .long, .long, .double, .double, .boolean]
  resolved := Array.replicate 460 none
  statics := none }

def pool19 : Array CpInfo := pool [(1, .methodref 2 3), (0, .class_ 4), (0, .nameAndType 5 6), (0, u "java/lang/Object"), (0, u "<init>"), (0, u "()V"), (0, .class_ 8), (0, u "java/util/ArrayList"), (0, .methodref 7 3), (0, .fieldref 11 12), (0, .class_ 13), (0, .nameAndType 14 15), (0, u "com/example/tariff/tariff/SupplyVoltages"), (0, u "voltages"), (0, u "Ljava/util/List;"), (0, .interfaceMethodref 17 18), (0, .class_ 19), (0, .nameAndType 20 21), (0, u "java/util/List"), (0, u "isEmpty"), (0, u "()Z"), (0, .interfaceMethodref 17 23), (0, .nameAndType 24 25), (0, u "size"), (0, u "()I"), (9, .class_ 36), (0, u "com/example/tariff/tariff/SupplyVoltages$Voltage"), (0, .interfaceMethodref 17 38), (0, .nameAndType 39 40), (0, u "get"), (0, u "(I)Ljava/lang/Object;"), (0, .class_ 42), (0, u "java/math/BigInteger"), (0, .class_ 44), (0, u "com/example/tariff/tariff/VoltageClass"), (0, .methodref 35 46), (0, .nameAndType 5 47), (0, u "(Ljava/math/BigInteger;Lcom/example/tariff/tariff/VoltageClass;Ljava/math/BigInteger;Ljava/math/BigInteger;)V"), (0, .interfaceMethodref 17 49), (0, .nameAndType 50 51), (0, u "add"), (0, u "(Ljava/lang/Object;)Z"), (4, .fieldref 35 57), (0, .nameAndType 58 59), (0, u "below"), (0, u "Ljava/math/BigInteger;"), (19, u "(Ljava/util/List;Ljava/util/List;Ljava/util/List;)V"), (6, u "()Ljava/math/BigInteger;")] 21

def k19c0 : Code := { maxStack := 8, maxLocals := 5, code := prog_37_method_1_code, exceptionTable := #[], attributes := #[] }
def k19m0 : Method := { name := "<init>", desc := "(Ljava/util/List;Ljava/util/List;Ljava/util/List;)V", sig := { parameters := [(.object "java/util/List"), (.object "java/util/List"), (.object "java/util/List")], returnType := none }, accessFlags := 0, code := some k19c0 }
def k19c1 : Code := { maxStack := 3, maxLocals := 1, code := prog_37_method_3_code, exceptionTable := #[], attributes := #[] }
def k19m1 : Method := { name := "below", desc := "()Ljava/math/BigInteger;", sig := { parameters := [], returnType := some (.object "java/math/BigInteger") }, accessFlags := 0, code := some k19c1 }
/-- com/example/tariff/tariff/SupplyVoltages -/
def k19 : Class := { plain "com/example/tariff/tariff/SupplyVoltages" (some 0) with
  accessFlags := 48
  interfaces := #[]
  cf := some (fileOf pool19 11 #[.nestMembers #[35]] #[{ accessFlags := 0, nameIndex := 5, descriptorIndex := 79, attributes := #[] }, { accessFlags := 0, nameIndex := 58, descriptorIndex := 86, attributes := #[] }] 48 2 #[] #[{ accessFlags := 18, nameIndex := 14, descriptorIndex := 15, attributes := #[] }])
  fields := #[{ name := "voltages", type := (.object "java/util/List"), accessFlags := 18, slot := 0, constantValue := 0 }]
  methods := #[k19m0, k19m1]
  instanceTypes := #[(.object "java/util/List")]
  staticTypes := #[]
  resolved := (((Array.replicate 108 none).setIfInBounds 35 (some (.cls 20))).setIfInBounds 45 (some (.method ⟨20, 0⟩))).setIfInBounds 56 (some (.field 20 3))
  statics := none }

def pool20 : Array CpInfo := pool [(1, .methodref 2 3), (0, .class_ 4), (0, .nameAndType 5 6), (0, u "java/lang/Object"), (0, u "<init>"), (0, u "()V"), (0, .fieldref 8 9), (0, .class_ 10), (0, .nameAndType 11 12), (0, u "com/example/tariff/tariff/SupplyVoltages$Voltage"), (0, u "volts"), (0, u "Ljava/math/BigInteger;"), (0, .fieldref 8 14), (0, .nameAndType 15 16), (0, u "voltageClass"), (0, u "Lcom/example/tariff/tariff/VoltageClass;"), (0, .fieldref 8 18), (0, .nameAndType 19 12), (0, u "from"), (0, .fieldref 8 21), (0, .nameAndType 22 12), (0, u "below"), (25, u "(Ljava/math/BigInteger;Lcom/example/tariff/tariff/VoltageClass;Ljava/math/BigInteger;Ljava/math/BigInteger;)V"), (9, .class_ 59), (0, u "com/example/tariff/tariff/SupplyVoltages")] 22

def k20c0 : Code := { maxStack := 2, maxLocals := 5, code := prog_38_method_1_code, exceptionTable := #[], attributes := #[] }
def k20m0 : Method := { name := "<init>", desc := "(Ljava/math/BigInteger;Lcom/example/tariff/tariff/VoltageClass;Ljava/math/BigInteger;Ljava/math/BigInteger;)V", sig := { parameters := [(.object "java/math/BigInteger"), (.object "com/example/tariff/tariff/VoltageClass"), (.object "java/math/BigInteger"), (.object "java/math/BigInteger")], returnType := none }, accessFlags := 2, code := some k20c0 }
/-- com/example/tariff/tariff/SupplyVoltages$Voltage -/
def k20 : Class := { plain "com/example/tariff/tariff/SupplyVoltages$Voltage" (some 0) with
  accessFlags := 48
  interfaces := #[]
  cf := some (fileOf pool20 8 #[.nestHost 58] #[{ accessFlags := 2, nameIndex := 5, descriptorIndex := 48, attributes := #[] }] 48 2 #[] #[{ accessFlags := 18, nameIndex := 11, descriptorIndex := 12, attributes := #[] }, { accessFlags := 18, nameIndex := 15, descriptorIndex := 16, attributes := #[] }, { accessFlags := 18, nameIndex := 19, descriptorIndex := 12, attributes := #[] }, { accessFlags := 18, nameIndex := 22, descriptorIndex := 12, attributes := #[] }])
  fields := #[{ name := "volts", type := (.object "java/math/BigInteger"), accessFlags := 18, slot := 0, constantValue := 0 }, { name := "voltageClass", type := (.object "com/example/tariff/tariff/VoltageClass"), accessFlags := 18, slot := 1, constantValue := 0 }, { name := "from", type := (.object "java/math/BigInteger"), accessFlags := 18, slot := 2, constantValue := 0 }, { name := "below", type := (.object "java/math/BigInteger"), accessFlags := 18, slot := 3, constantValue := 0 }]
  methods := #[k20m0]
  instanceTypes := #[(.object "java/math/BigInteger"), (.object "com/example/tariff/tariff/VoltageClass"), (.object "java/math/BigInteger"), (.object "java/math/BigInteger")]
  staticTypes := #[]
  resolved := Array.replicate 82 none
  statics := none }

def pool21 : Array CpInfo := pool [(2, .class_ 4), (1, u "java/lang/Object"), (0, u "<init>"), (0, u "()V"), (35, .class_ 44), (1, u "java/util/Objects"), (60, .methodref 106 107), (0, .class_ 108), (0, .nameAndType 109 110), (0, u "jdk/internal/util/Preconditions"), (0, u "checkIndex"), (0, u "(IILjava/util/function/BiFunction;)I"), (60, u "(II)I")] 12

def k21m0 : Method := { name := "<init>", desc := "()V", sig := { parameters := [], returnType := none }, accessFlags := 2, code := none }
def k21c1 : Code := { maxStack := 3, maxLocals := 2, code := jdk_31_method_17_code, exceptionTable := #[], attributes := #[] }
def k21m1 : Method := { name := "checkIndex", desc := "(II)I", sig := { parameters := [.int, .int], returnType := some .int }, accessFlags := 9, code := some k21c1 }
/-- java/util/Objects -/
def k21 : Class := { plain "java/util/Objects" (some 0) with
  accessFlags := 49
  interfaces := #[]
  cf := some (fileOf pool21 42 #[] #[{ accessFlags := 2, nameIndex := 5, descriptorIndex := 6, attributes := #[] }, { accessFlags := 9, nameIndex := 109, descriptorIndex := 171, attributes := #[] }] 49 2 #[] #[])
  fields := #[]
  methods := #[k21m0, k21m1]
  instanceTypes := #[]
  staticTypes := #[]
  resolved := Array.replicate 184 none
  statics := none }

def pool22 : Array CpInfo := pool [(2, .class_ 4), (1, u "java/lang/Object"), (0, u "<init>"), (0, u "()V"), (17, .class_ 26), (1, u "jdk/internal/util/Preconditions"), (6, u "checkIndex"), (21, .class_ 56), (0, u "jdk/internal/util/Preconditions$4"), (57, .class_ 115), (0, u "jdk/internal/util/Preconditions$1"), (7, u "SIOOBE_FORMATTER"), (0, u "Ljava/util/function/BiFunction;"), (0, .class_ 126), (0, u "jdk/internal/util/Preconditions$2"), (3, u "AIOOBE_FORMATTER"), (0, .class_ 132), (0, u "jdk/internal/util/Preconditions$3"), (3, u "IOOBE_FORMATTER"), (41, u "(IILjava/util/function/BiFunction;)I")] 15

def k22m0 : Method := { name := "<init>", desc := "()V", sig := { parameters := [], returnType := none }, accessFlags := 1, code := none }
def k22c1 : Code := { maxStack := 3, maxLocals := 3, code := jdk_41_method_11_code, exceptionTable := #[], attributes := #[] }
def k22m1 : Method := { name := "checkIndex", desc := "(IILjava/util/function/BiFunction;)I", sig := { parameters := [.int, .int, (.object "java/util/function/BiFunction")], returnType := some .int }, accessFlags := 9, code := some k22c1 }
/-- jdk/internal/util/Preconditions -/
def k22 : Class := { plain "jdk/internal/util/Preconditions" (some 0) with
  accessFlags := 33
  interfaces := #[]
  cf := some (fileOf pool22 24 #[.nestMembers #[55, 131, 125, 114]] #[{ accessFlags := 1, nameIndex := 5, descriptorIndex := 6, attributes := #[] }, { accessFlags := 9, nameIndex := 33, descriptorIndex := 178, attributes := #[] }] 33 2 #[] #[{ accessFlags := 25, nameIndex := 123, descriptorIndex := 124, attributes := #[] }, { accessFlags := 25, nameIndex := 130, descriptorIndex := 124, attributes := #[] }, { accessFlags := 25, nameIndex := 136, descriptorIndex := 124, attributes := #[] }])
  fields := #[{ name := "SIOOBE_FORMATTER", type := (.object "java/util/function/BiFunction"), accessFlags := 25, slot := 0, constantValue := 0 }, { name := "AIOOBE_FORMATTER", type := (.object "java/util/function/BiFunction"), accessFlags := 25, slot := 1, constantValue := 0 }, { name := "IOOBE_FORMATTER", type := (.object "java/util/function/BiFunction"), accessFlags := 25, slot := 2, constantValue := 0 }]
  methods := #[k22m0, k22m1]
  instanceTypes := #[]
  staticTypes := #[(.object "java/util/function/BiFunction"), (.object "java/util/function/BiFunction"), (.object "java/util/function/BiFunction")]
  resolved := Array.replicate 194 none
  statics := none }

/-- the primitive byte -/
def k23 : Class := { plain "byte" none with kind := .primitive 'B', accessFlags := 0x411 }
/-- [B -/
def k24 : Class := { plain "[B" (some 0) with kind := .array 23 .byte, interfaces := #[16, 2], accessFlags := 1041 }

/-- the primitive int -/
def k25 : Class := { plain "int" none with kind := .primitive 'I', accessFlags := 0x411 }
/-- [I -/
def k26 : Class := { plain "[I" (some 0) with kind := .array 25 .int, interfaces := #[16, 2], accessFlags := 1041 }

/-- [Ljava/lang/Object; -/
def k27 : Class := { plain "[Ljava/lang/Object;" (some 0) with kind := .array 0 (.object "java/lang/Object"), interfaces := #[16, 2], accessFlags := 1041 }

/-- [Ljava/math/BigInteger; -/
def k28 : Class := { plain "[Ljava/math/BigInteger;" (some 0) with kind := .array 5 (.object "java/math/BigInteger"), interfaces := #[16, 2], accessFlags := 1041 }

def heap : Heap := #[{ cls := 5, slots := #[.long 0, .int 0, .int 0, .int 0, .int 0, .int 0, .int 0, .int 0, .int 0, .int 0, .int 0, .int 0, .null, .int 0, .int 0, .null, .int 0, .ref 3, .ref 4, .null, .null, .double 0, .ref 55, .ref 5, .ref 6, .ref 21, .ref 14, .null, .int 0, .null, .null, .null, .null, .null, .long 0, .null, .int 0], vm := .statics 5 },
  { cls := 8, slots := #[.ref 38, .ref 37, .null], vm := .statics 8 },
  { cls := 17, slots := #[.long 0, .int 0, .ref 57, .ref 58], vm := .statics 17 },
  { cls := 28, slots := #[.null, .ref 5, .ref 6, .ref 7, .ref 8, .ref 9, .ref 10, .ref 11, .ref 12, .ref 13, .ref 14, .ref 15, .ref 16, .ref 17, .ref 18, .ref 19, .ref 20], vm := .none },
  { cls := 28, slots := #[.null, .ref 21, .ref 22, .ref 23, .ref 24, .ref 25, .ref 26, .ref 27, .ref 28, .ref 29, .ref 30, .ref 31, .ref 32, .ref 33, .ref 34, .ref 35, .ref 36], vm := .none },
  { cls := 5, slots := #[.int (1), .ref 39, .int 0, .int 0, .int 0, .int 0], vm := .none },
  { cls := 5, slots := #[.int (1), .ref 40, .int 0, .int 0, .int 0, .int 0], vm := .none },
  { cls := 5, slots := #[.int (1), .ref 41, .int 0, .int 0, .int 0, .int 0], vm := .none },
  { cls := 5, slots := #[.int (1), .ref 42, .int 0, .int 0, .int 0, .int 0], vm := .none },
  { cls := 5, slots := #[.int (1), .ref 43, .int 0, .int 0, .int 0, .int 0], vm := .none },
  { cls := 5, slots := #[.int (1), .ref 44, .int 0, .int 0, .int 0, .int 0], vm := .none },
  { cls := 5, slots := #[.int (1), .ref 45, .int 0, .int 0, .int 0, .int 0], vm := .none },
  { cls := 5, slots := #[.int (1), .ref 46, .int 0, .int 0, .int 0, .int 0], vm := .none },
  { cls := 5, slots := #[.int (1), .ref 47, .int 0, .int 0, .int 0, .int 0], vm := .none },
  { cls := 5, slots := #[.int (1), .ref 48, .int 0, .int 0, .int 0, .int 0], vm := .none },
  { cls := 5, slots := #[.int (1), .ref 49, .int 0, .int 0, .int 0, .int 0], vm := .none },
  { cls := 5, slots := #[.int (1), .ref 50, .int 0, .int 0, .int 0, .int 0], vm := .none },
  { cls := 5, slots := #[.int (1), .ref 51, .int 0, .int 0, .int 0, .int 0], vm := .none },
  { cls := 5, slots := #[.int (1), .ref 52, .int 0, .int 0, .int 0, .int 0], vm := .none },
  { cls := 5, slots := #[.int (1), .ref 53, .int 0, .int 0, .int 0, .int 0], vm := .none },
  { cls := 5, slots := #[.int (1), .ref 54, .int 0, .int 0, .int 0, .int 0], vm := .none },
  { cls := 5, slots := #[.int (-1), .ref 39, .int 0, .int 0, .int 0, .int 0], vm := .none },
  { cls := 5, slots := #[.int (-1), .ref 40, .int 0, .int 0, .int 0, .int 0], vm := .none },
  { cls := 5, slots := #[.int (-1), .ref 41, .int 0, .int 0, .int 0, .int 0], vm := .none },
  { cls := 5, slots := #[.int (-1), .ref 42, .int 0, .int 0, .int 0, .int 0], vm := .none },
  { cls := 5, slots := #[.int (-1), .ref 43, .int 0, .int 0, .int 0, .int 0], vm := .none },
  { cls := 5, slots := #[.int (-1), .ref 44, .int 0, .int 0, .int 0, .int 0], vm := .none },
  { cls := 5, slots := #[.int (-1), .ref 45, .int 0, .int 0, .int 0, .int 0], vm := .none },
  { cls := 5, slots := #[.int (-1), .ref 46, .int 0, .int 0, .int 0, .int 0], vm := .none },
  { cls := 5, slots := #[.int (-1), .ref 47, .int 0, .int 0, .int 0, .int 0], vm := .none },
  { cls := 5, slots := #[.int (-1), .ref 48, .int 0, .int 0, .int 0, .int 0], vm := .none },
  { cls := 5, slots := #[.int (-1), .ref 49, .int 0, .int 0, .int 0, .int 0], vm := .none },
  { cls := 5, slots := #[.int (-1), .ref 50, .int 0, .int 0, .int 0, .int 0], vm := .none },
  { cls := 5, slots := #[.int (-1), .ref 51, .int 0, .int 0, .int 0, .int 0], vm := .none },
  { cls := 5, slots := #[.int (-1), .ref 52, .int 0, .int 0, .int 0, .int 0], vm := .none },
  { cls := 5, slots := #[.int (-1), .ref 53, .int 0, .int 0, .int 0, .int 0], vm := .none },
  { cls := 5, slots := #[.int (-1), .ref 54, .int 0, .int 0, .int 0, .int 0], vm := .none },
  { cls := 8, slots := #[.null, .int 0, .int 0, .null, .null], vm := .none },
  { cls := 8, slots := #[.null, .int 0, .int 0, .null, .null], vm := .none },
  { cls := 26, slots := #[.int 1], vm := .none },
  { cls := 26, slots := #[.int 2], vm := .none },
  { cls := 26, slots := #[.int 3], vm := .none },
  { cls := 26, slots := #[.int 4], vm := .none },
  { cls := 26, slots := #[.int 5], vm := .none },
  { cls := 26, slots := #[.int 6], vm := .none },
  { cls := 26, slots := #[.int 7], vm := .none },
  { cls := 26, slots := #[.int 8], vm := .none },
  { cls := 26, slots := #[.int 9], vm := .none },
  { cls := 26, slots := #[.int 10], vm := .none },
  { cls := 26, slots := #[.int 11], vm := .none },
  { cls := 26, slots := #[.int 12], vm := .none },
  { cls := 26, slots := #[.int 13], vm := .none },
  { cls := 26, slots := #[.int 14], vm := .none },
  { cls := 26, slots := #[.int 15], vm := .none },
  { cls := 26, slots := #[.int 16], vm := .none },
  { cls := 5, slots := #[.int 0, .ref 56, .int 0, .int 0, .int 0, .int 0], vm := .none },
  { cls := 26, slots := #[], vm := .none },
  { cls := 27, slots := #[], vm := .none },
  { cls := 27, slots := #[], vm := .none }]
def classes : Array Class := #[k0, k1, k2, k3, k4, k5, k6, k7, k8, k9, k10, k11, k12, k13, k14, k15, k16, k17, k18, k19, k20, k21, k22, k23, k24, k25, k26, k27, k28]
def interned : List (Array UInt16 × Addr) := []
def slotsUsed : Nat := 302
def theMethod : MethodId := ⟨1, 1⟩
def args0 : Array Value := #[.int 18, .int 5, .int 9, .int 7, .long 77]
def aboutOver (below : List Frame) : State where
  vm := { classes := classes, interned := interned.toArray }
  heap := heap
  slotsUsed := slotsUsed
  threads := #[{ frames := .invoking theMethod args0 :: below }]
def below0 : List Frame := [.native { method := ⟨0, 0⟩, args := #[] }]
def about1 : State := aboutOver below0
def p0 : Program := .bare "" "" ""
def e0 : Env := launch0.env 0 0 0
theorem w_frames : about1.frames = Frame.invoking theMethod args0 :: below0 := rfl
set_option maxRecDepth 65536 in
theorem w_args : argsFit about1.vm theMethod args0 = true := by decide +kernel
set_option maxRecDepth 65536 in
theorem w_heap : heapFits about1 = true := by decide +kernel
set_option maxRecDepth 65536 in
theorem w_runnable : about1.curStatus? = some .runnable := by decide +kernel
set_option maxRecDepth 65536 in
theorem w_alone : about1.alone = true := by decide +kernel
set_option maxRecDepth 65536 in
theorem w_named : about1.methodNamed? x = some theMethod := by decide +kernel
set_option maxRecDepth 65536 in
theorem w_hears : about1.hears theMethod below0 = true := by decide +kernel
set_option maxRecDepth 65536 in
theorem w_ripe : about1.ripe theMethod args0 below0 = true := by decide +kernel
theorem w_running : about1.status = .running := rfl
set_option maxRecDepth 65536 in
theorem w_room : about1.hasRoom e0.platform room_1 = true :=
  launch0.hasRoom_least _ room_1 (by decide +kernel) (by decide +kernel) (by decide +kernel) (by decide +kernel) (by decide +kernel) (by decide +kernel)
theorem allAtoms_all (ts : List Jvm.Cond) (a : Array Jvm.Value) (st : Jvm.State) : (allAtoms ts).before a st = ts.all (fun c => c.before a st) := by
  induction ts with
  | nil => rfl
  | cons c t ih =>
    show (Jvm.Cond.and c (allAtoms t)).before a st = _
    rw [Jvm.Cond.before_and, ih, List.all_cons]
def words1 : List Jvm.Cond := Jvm.Cond.code x code maxLocals ret :: tables_1
/-- a 'code' word, met by the world's own term for the bytes: nothing is compared byte by byte -/
theorem code_word {y : MethodName} {bytes : ByteArray} {mx : Nat} {rt : Option FieldType} {a : Array Value} {s : State} {m : MethodId} {meth : Method} {c : Code} (h1 : s.methodNamed? y = some m) (h2 : s.vm.method? m = some meth) (h3 : meth.code = some c) (h4 : c.code = bytes)
    (h5 : (c.maxLocals == mx && c.exceptionTable.isEmpty && decide (c.maxStack ≤ mostOperands) && decide (meth.sig.returnType = rt) && !meth.locks && decide (parseMethodDescriptor y.desc = some meth.sig)) = true) : (Jvm.Cond.code y bytes mx rt).before a s = true := by
  simp only [Bool.and_eq_true, beq_iff_eq, Bool.not_eq_true', decide_eq_true_eq] at h5
  obtain ⟨⟨⟨⟨⟨g1, g2⟩, g3⟩, g4⟩, g5⟩, g6⟩ := h5
  simp [Cond.before, Cond.holds, Cond.value, h1, h2, h3, h4, g1, g2, g3, g4, g5, g6]
def isCode : Jvm.Cond → Bool
  | .code _ _ _ _ => true
  | _ => false
theorem all_split {L : List Jvm.Cond} {P : Jvm.Cond → Bool} (h1 : L.all (fun c => isCode c || P c) = true) (h2 : ∀ c ∈ L.filter isCode, P c = true) : L.all P = true := by
  refine List.all_eq_true.mpr fun c hc => ?_
  have h := List.all_eq_true.mp h1 c hc
  rcases Bool.eq_false_or_eq_true (isCode c) with hi | hi
  · exact h2 c (List.mem_filter.mpr ⟨hc, hi⟩)
  · simpa [hi] using h
set_option maxRecDepth 65536 in
theorem w_c0 : (Jvm.Cond.code x code maxLocals ret).before args0 about1 = true := code_word (m := ⟨1, 1⟩) (meth := k1m1) (c := k1c1) (by decide +kernel) rfl rfl rfl (by decide +kernel)
set_option maxRecDepth 65536 in
theorem w_c1 : (Jvm.Cond.code ({ cls := "java/math/BigInteger", name := "valueOf", desc := "(J)Ljava/math/BigInteger;" } : Jvm.MethodName) jdk_2097_method_29_code (2 : Nat) (Option.some (Jvm.ClassFile.FieldType.object "java/math/BigInteger"))).before args0 about1 = true := code_word (m := ⟨5, 0⟩) (meth := k5m0) (c := k5c0) (by decide +kernel) rfl rfl rfl (by decide +kernel)
set_option maxRecDepth 65536 in
theorem w_c2 : (Jvm.Cond.code ({ cls := "java/math/BigInteger", name := "<init>", desc := "(J)V" } : Jvm.MethodName) jdk_2097_method_30_code (4 : Nat) (Option.none : Option Jvm.ClassFile.FieldType)).before args0 about1 = true := code_word (m := ⟨5, 1⟩) (meth := k5m1) (c := k5c1) (by decide +kernel) rfl rfl rfl (by decide +kernel)
set_option maxRecDepth 65536 in
theorem w_c3 : (Jvm.Cond.code ({ cls := "java/lang/Number", name := "<init>", desc := "()V" } : Jvm.MethodName) jdk_18_method_1_code (1 : Nat) (Option.none : Option Jvm.ClassFile.FieldType)).before args0 about1 = true := code_word (m := ⟨3, 0⟩) (meth := k3m0) (c := k3c0) (by decide +kernel) rfl rfl rfl (by decide +kernel)
set_option maxRecDepth 65536 in
theorem w_c4 : (Jvm.Cond.code ({ cls := "java/lang/Object", name := "<init>", desc := "()V" } : Jvm.MethodName) object_method_1_code (1 : Nat) (Option.none : Option Jvm.ClassFile.FieldType)).before args0 about1 = true := code_word (m := ⟨0, 0⟩) (meth := k0m0) (c := k0c0) (by decide +kernel) rfl rfl rfl (by decide +kernel)
set_option maxRecDepth 65536 in
theorem w_c5 : (Jvm.Cond.code ({ cls := "java/util/ArrayList", name := "<init>", desc := "()V" } : Jvm.MethodName) jdk_38_method_2_code (1 : Nat) (Option.none : Option Jvm.ClassFile.FieldType)).before args0 about1 = true := code_word (m := ⟨17, 0⟩) (meth := k17m0) (c := k17c0) (by decide +kernel) rfl rfl rfl (by decide +kernel)
set_option maxRecDepth 65536 in
theorem w_c6 : (Jvm.Cond.code ({ cls := "java/util/AbstractList", name := "<init>", desc := "()V" } : Jvm.MethodName) jdk_39_method_1_code (1 : Nat) (Option.none : Option Jvm.ClassFile.FieldType)).before args0 about1 = true := code_word (m := ⟨14, 0⟩) (meth := k14m0) (c := k14c0) (by decide +kernel) rfl rfl rfl (by decide +kernel)
set_option maxRecDepth 65536 in
theorem w_c7 : (Jvm.Cond.code ({ cls := "java/util/AbstractCollection", name := "<init>", desc := "()V" } : Jvm.MethodName) jdk_22_method_1_code (1 : Nat) (Option.none : Option Jvm.ClassFile.FieldType)).before args0 about1 = true := code_word (m := ⟨11, 0⟩) (meth := k11m0) (c := k11c0) (by decide +kernel) rfl rfl rfl (by decide +kernel)
set_option maxRecDepth 65536 in
theorem w_c8 : (Jvm.Cond.code ({ cls := "java/util/ArrayList", name := "add", desc := "(Ljava/lang/Object;)Z" } : Jvm.MethodName) jdk_38_method_25_code (2 : Nat) (Option.some Jvm.ClassFile.FieldType.boolean)).before args0 about1 = true := code_word (m := ⟨17, 8⟩) (meth := k17m8) (c := k17c8) (by decide +kernel) rfl rfl rfl (by decide +kernel)
set_option maxRecDepth 65536 in
theorem w_c9 : (Jvm.Cond.code ({ cls := "java/util/ArrayList", name := "add", desc := "(Ljava/lang/Object;[Ljava/lang/Object;I)V" } : Jvm.MethodName) jdk_38_method_24_code (4 : Nat) (Option.none : Option Jvm.ClassFile.FieldType)).before args0 about1 = true := code_word (m := ⟨17, 7⟩) (meth := k17m7) (c := k17c7) (by decide +kernel) rfl rfl rfl (by decide +kernel)
set_option maxRecDepth 65536 in
theorem w_c10 : (Jvm.Cond.code ({ cls := "java/util/ArrayList", name := "grow", desc := "()[Ljava/lang/Object;" } : Jvm.MethodName) jdk_38_method_7_code (1 : Nat) (Option.some (Jvm.ClassFile.FieldType.array (Jvm.ClassFile.FieldType.object "java/lang/Object")))).before args0 about1 = true := code_word (m := ⟨17, 2⟩) (meth := k17m2) (c := k17c2) (by decide +kernel) rfl rfl rfl (by decide +kernel)
set_option maxRecDepth 65536 in
theorem w_c11 : (Jvm.Cond.code ({ cls := "java/util/ArrayList", name := "grow", desc := "(I)[Ljava/lang/Object;" } : Jvm.MethodName) jdk_38_method_6_code (4 : Nat) (Option.some (Jvm.ClassFile.FieldType.array (Jvm.ClassFile.FieldType.object "java/lang/Object")))).before args0 about1 = true := code_word (m := ⟨17, 1⟩) (meth := k17m1) (c := k17c1) (by decide +kernel) rfl rfl rfl (by decide +kernel)
set_option maxRecDepth 65536 in
theorem w_c12 : (Jvm.Cond.code ({ cls := "java/lang/Math", name := "max", desc := "(II)I" } : Jvm.MethodName) jdk_29_method_65_code (2 : Nat) (Option.some Jvm.ClassFile.FieldType.int)).before args0 about1 = true := code_word (m := ⟨18, 1⟩) (meth := k18m1) (c := k18c1) (by decide +kernel) rfl rfl rfl (by decide +kernel)
set_option maxRecDepth 65536 in
theorem w_c13 : (Jvm.Cond.code ({ cls := "com/example/tariff/tariff/SupplyVoltages", name := "<init>", desc := "(Ljava/util/List;Ljava/util/List;Ljava/util/List;)V" } : Jvm.MethodName) prog_37_method_1_code (5 : Nat) (Option.none : Option Jvm.ClassFile.FieldType)).before args0 about1 = true := code_word (m := ⟨19, 0⟩) (meth := k19m0) (c := k19c0) (by decide +kernel) rfl rfl rfl (by decide +kernel)
set_option maxRecDepth 65536 in
theorem w_c14 : (Jvm.Cond.code ({ cls := "java/util/ArrayList", name := "isEmpty", desc := "()Z" } : Jvm.MethodName) jdk_38_method_9_code (1 : Nat) (Option.some Jvm.ClassFile.FieldType.boolean)).before args0 about1 = true := code_word (m := ⟨17, 4⟩) (meth := k17m4) (c := k17c4) (by decide +kernel) rfl rfl rfl (by decide +kernel)
set_option maxRecDepth 65536 in
theorem w_c15 : (Jvm.Cond.code ({ cls := "java/util/ArrayList", name := "size", desc := "()I" } : Jvm.MethodName) jdk_38_method_8_code (1 : Nat) (Option.some Jvm.ClassFile.FieldType.int)).before args0 about1 = true := code_word (m := ⟨17, 3⟩) (meth := k17m3) (c := k17c3) (by decide +kernel) rfl rfl rfl (by decide +kernel)
set_option maxRecDepth 65536 in
theorem w_c16 : (Jvm.Cond.code ({ cls := "java/util/ArrayList", name := "get", desc := "(I)Ljava/lang/Object;" } : Jvm.MethodName) jdk_38_method_20_code (2 : Nat) (Option.some (Jvm.ClassFile.FieldType.object "java/lang/Object"))).before args0 about1 = true := code_word (m := ⟨17, 6⟩) (meth := k17m6) (c := k17c6) (by decide +kernel) rfl rfl rfl (by decide +kernel)
set_option maxRecDepth 65536 in
theorem w_c17 : (Jvm.Cond.code ({ cls := "java/util/Objects", name := "checkIndex", desc := "(II)I" } : Jvm.MethodName) jdk_31_method_17_code (2 : Nat) (Option.some Jvm.ClassFile.FieldType.int)).before args0 about1 = true := code_word (m := ⟨21, 1⟩) (meth := k21m1) (c := k21c1) (by decide +kernel) rfl rfl rfl (by decide +kernel)
set_option maxRecDepth 65536 in
theorem w_c18 : (Jvm.Cond.code ({ cls := "jdk/internal/util/Preconditions", name := "checkIndex", desc := "(IILjava/util/function/BiFunction;)I" } : Jvm.MethodName) jdk_41_method_11_code (3 : Nat) (Option.some Jvm.ClassFile.FieldType.int)).before args0 about1 = true := code_word (m := ⟨22, 1⟩) (meth := k22m1) (c := k22c1) (by decide +kernel) rfl rfl rfl (by decide +kernel)
set_option maxRecDepth 65536 in
theorem w_c19 : (Jvm.Cond.code ({ cls := "java/util/ArrayList", name := "elementData", desc := "(I)Ljava/lang/Object;" } : Jvm.MethodName) jdk_38_method_18_code (2 : Nat) (Option.some (Jvm.ClassFile.FieldType.object "java/lang/Object"))).before args0 about1 = true := code_word (m := ⟨17, 5⟩) (meth := k17m5) (c := k17c5) (by decide +kernel) rfl rfl rfl (by decide +kernel)
set_option maxRecDepth 65536 in
theorem w_c20 : (Jvm.Cond.code ({ cls := "com/example/tariff/tariff/SupplyVoltages$Voltage", name := "<init>", desc := "(Ljava/math/BigInteger;Lcom/example/tariff/tariff/VoltageClass;Ljava/math/BigInteger;Ljava/math/BigInteger;)V" } : Jvm.MethodName) prog_38_method_1_code (5 : Nat) (Option.none : Option Jvm.ClassFile.FieldType)).before args0 about1 = true := code_word (m := ⟨20, 0⟩) (meth := k20m0) (c := k20c0) (by decide +kernel) rfl rfl rfl (by decide +kernel)
set_option maxRecDepth 65536 in
theorem w_c21 : (Jvm.Cond.code ({ cls := "com/example/tariff/tariff/SupplyVoltages", name := "below", desc := "()Ljava/math/BigInteger;" } : Jvm.MethodName) prog_37_method_3_code (1 : Nat) (Option.some (Jvm.ClassFile.FieldType.object "java/math/BigInteger"))).before args0 about1 = true := code_word (m := ⟨19, 1⟩) (meth := k19m1) (c := k19c1) (by decide +kernel) rfl rfl rfl (by decide +kernel)
set_option maxRecDepth 65536 in
theorem w_c22 : (Jvm.Cond.code ({ cls := "java/math/BigInteger", name := "equals", desc := "(Ljava/lang/Object;)Z" } : Jvm.MethodName) jdk_2097_method_124_code (7 : Nat) (Option.some Jvm.ClassFile.FieldType.boolean)).before args0 about1 = true := code_word (m := ⟨5, 2⟩) (meth := k5m2) (c := k5c2) (by decide +kernel) rfl rfl rfl (by decide +kernel)
def codes1 : List Jvm.Cond := [Jvm.Cond.code x code maxLocals ret, Jvm.Cond.code ({ cls := "java/math/BigInteger", name := "valueOf", desc := "(J)Ljava/math/BigInteger;" } : Jvm.MethodName) jdk_2097_method_29_code (2 : Nat) (Option.some (Jvm.ClassFile.FieldType.object "java/math/BigInteger")), Jvm.Cond.code ({ cls := "java/math/BigInteger", name := "<init>", desc := "(J)V" } : Jvm.MethodName) jdk_2097_method_30_code (4 : Nat) (Option.none : Option Jvm.ClassFile.FieldType), Jvm.Cond.code ({ cls := "java/lang/Number", name := "<init>", desc := "()V" } : Jvm.MethodName) jdk_18_method_1_code (1 : Nat) (Option.none : Option Jvm.ClassFile.FieldType), Jvm.Cond.code ({ cls := "java/lang/Object", name := "<init>", desc := "()V" } : Jvm.MethodName) object_method_1_code (1 : Nat) (Option.none : Option Jvm.ClassFile.FieldType), Jvm.Cond.code ({ cls := "java/util/ArrayList", name := "<init>", desc := "()V" } : Jvm.MethodName) jdk_38_method_2_code (1 : Nat) (Option.none : Option Jvm.ClassFile.FieldType), Jvm.Cond.code ({ cls := "java/util/AbstractList", name := "<init>", desc := "()V" } : Jvm.MethodName) jdk_39_method_1_code (1 : Nat) (Option.none : Option Jvm.ClassFile.FieldType), Jvm.Cond.code ({ cls := "java/util/AbstractCollection", name := "<init>", desc := "()V" } : Jvm.MethodName) jdk_22_method_1_code (1 : Nat) (Option.none : Option Jvm.ClassFile.FieldType), Jvm.Cond.code ({ cls := "java/util/ArrayList", name := "add", desc := "(Ljava/lang/Object;)Z" } : Jvm.MethodName) jdk_38_method_25_code (2 : Nat) (Option.some Jvm.ClassFile.FieldType.boolean), Jvm.Cond.code ({ cls := "java/util/ArrayList", name := "add", desc := "(Ljava/lang/Object;[Ljava/lang/Object;I)V" } : Jvm.MethodName) jdk_38_method_24_code (4 : Nat) (Option.none : Option Jvm.ClassFile.FieldType), Jvm.Cond.code ({ cls := "java/util/ArrayList", name := "grow", desc := "()[Ljava/lang/Object;" } : Jvm.MethodName) jdk_38_method_7_code (1 : Nat) (Option.some (Jvm.ClassFile.FieldType.array (Jvm.ClassFile.FieldType.object "java/lang/Object"))), Jvm.Cond.code ({ cls := "java/util/ArrayList", name := "grow", desc := "(I)[Ljava/lang/Object;" } : Jvm.MethodName) jdk_38_method_6_code (4 : Nat) (Option.some (Jvm.ClassFile.FieldType.array (Jvm.ClassFile.FieldType.object "java/lang/Object"))), Jvm.Cond.code ({ cls := "java/lang/Math", name := "max", desc := "(II)I" } : Jvm.MethodName) jdk_29_method_65_code (2 : Nat) (Option.some Jvm.ClassFile.FieldType.int), Jvm.Cond.code ({ cls := "com/example/tariff/tariff/SupplyVoltages", name := "<init>", desc := "(Ljava/util/List;Ljava/util/List;Ljava/util/List;)V" } : Jvm.MethodName) prog_37_method_1_code (5 : Nat) (Option.none : Option Jvm.ClassFile.FieldType), Jvm.Cond.code ({ cls := "java/util/ArrayList", name := "isEmpty", desc := "()Z" } : Jvm.MethodName) jdk_38_method_9_code (1 : Nat) (Option.some Jvm.ClassFile.FieldType.boolean), Jvm.Cond.code ({ cls := "java/util/ArrayList", name := "size", desc := "()I" } : Jvm.MethodName) jdk_38_method_8_code (1 : Nat) (Option.some Jvm.ClassFile.FieldType.int), Jvm.Cond.code ({ cls := "java/util/ArrayList", name := "get", desc := "(I)Ljava/lang/Object;" } : Jvm.MethodName) jdk_38_method_20_code (2 : Nat) (Option.some (Jvm.ClassFile.FieldType.object "java/lang/Object")), Jvm.Cond.code ({ cls := "java/util/Objects", name := "checkIndex", desc := "(II)I" } : Jvm.MethodName) jdk_31_method_17_code (2 : Nat) (Option.some Jvm.ClassFile.FieldType.int), Jvm.Cond.code ({ cls := "jdk/internal/util/Preconditions", name := "checkIndex", desc := "(IILjava/util/function/BiFunction;)I" } : Jvm.MethodName) jdk_41_method_11_code (3 : Nat) (Option.some Jvm.ClassFile.FieldType.int), Jvm.Cond.code ({ cls := "java/util/ArrayList", name := "elementData", desc := "(I)Ljava/lang/Object;" } : Jvm.MethodName) jdk_38_method_18_code (2 : Nat) (Option.some (Jvm.ClassFile.FieldType.object "java/lang/Object")), Jvm.Cond.code ({ cls := "com/example/tariff/tariff/SupplyVoltages$Voltage", name := "<init>", desc := "(Ljava/math/BigInteger;Lcom/example/tariff/tariff/VoltageClass;Ljava/math/BigInteger;Ljava/math/BigInteger;)V" } : Jvm.MethodName) prog_38_method_1_code (5 : Nat) (Option.none : Option Jvm.ClassFile.FieldType), Jvm.Cond.code ({ cls := "com/example/tariff/tariff/SupplyVoltages", name := "below", desc := "()Ljava/math/BigInteger;" } : Jvm.MethodName) prog_37_method_3_code (1 : Nat) (Option.some (Jvm.ClassFile.FieldType.object "java/math/BigInteger")), Jvm.Cond.code ({ cls := "java/math/BigInteger", name := "equals", desc := "(Ljava/lang/Object;)Z" } : Jvm.MethodName) jdk_2097_method_124_code (7 : Nat) (Option.some Jvm.ClassFile.FieldType.boolean)]
set_option maxRecDepth 65536 in
theorem codes_eq : words1.filter isCode = codes1 := rfl
theorem w_codes : ∀ c ∈ words1.filter isCode, c.before args0 about1 = true := by
  rw [codes_eq]
  intro c hc
  simp only [codes1, List.mem_cons, List.not_mem_nil, or_false] at hc
  rcases hc with rfl | rfl | rfl | rfl | rfl | rfl | rfl | rfl | rfl | rfl | rfl | rfl | rfl | rfl | rfl | rfl | rfl | rfl | rfl | rfl | rfl | rfl | rfl
  · exact w_c0
  · exact w_c1
  · exact w_c2
  · exact w_c3
  · exact w_c4
  · exact w_c5
  · exact w_c6
  · exact w_c7
  · exact w_c8
  · exact w_c9
  · exact w_c10
  · exact w_c11
  · exact w_c12
  · exact w_c13
  · exact w_c14
  · exact w_c15
  · exact w_c16
  · exact w_c17
  · exact w_c18
  · exact w_c19
  · exact w_c20
  · exact w_c21
  · exact w_c22
set_option maxRecDepth 65536 in
theorem w_t1 : (words1.take 24).all (fun c => isCode c || c.before args0 about1) = true := by decide +kernel
set_option maxRecDepth 65536 in
theorem w_t2 : ((words1.drop 24).take 24).all (fun c => isCode c || c.before args0 about1) = true := by decide +kernel
set_option maxRecDepth 65536 in
theorem w_t3 : (((words1.drop 24).drop 24).take 24).all (fun c => isCode c || c.before args0 about1) = true := by decide +kernel
set_option maxRecDepth 65536 in
theorem w_t4 : ((((words1.drop 24).drop 24).drop 24).take 24).all (fun c => isCode c || c.before args0 about1) = true := by decide +kernel
set_option maxRecDepth 65536 in
theorem w_t5 : (((((words1.drop 24).drop 24).drop 24).drop 24).take 24).all (fun c => isCode c || c.before args0 about1) = true := by decide +kernel
set_option maxRecDepth 65536 in
theorem w_t6 : ((((((words1.drop 24).drop 24).drop 24).drop 24).drop 24).take 24).all (fun c => isCode c || c.before args0 about1) = true := by decide +kernel
set_option maxRecDepth 65536 in
theorem w_t7 : (((((((words1.drop 24).drop 24).drop 24).drop 24).drop 24).drop 24).take 24).all (fun c => isCode c || c.before args0 about1) = true := by decide +kernel
set_option maxRecDepth 65536 in
theorem w_t8 : (((((((words1.drop 24).drop 24).drop 24).drop 24).drop 24).drop 24).drop 24).all (fun c => isCode c || c.before args0 about1) = true := by decide +kernel
theorem w_tables : (allAtoms (Jvm.Cond.code x code maxLocals ret :: tables_1)).before args0 about1 = true := by
  rw [allAtoms_all]
  show words1.all (fun c => c.before args0 about1) = true
  refine all_split ?_ w_codes
  rw [← List.take_append_drop 24 words1, List.all_append, w_t1, ← List.take_append_drop 24 (words1.drop 24), List.all_append, w_t2, ← List.take_append_drop 24 ((words1.drop 24).drop 24), List.all_append, w_t3, ← List.take_append_drop 24 (((words1.drop 24).drop 24).drop 24), List.all_append, w_t4, ← List.take_append_drop 24 ((((words1.drop 24).drop 24).drop 24).drop 24), List.all_append, w_t5, ← List.take_append_drop 24 (((((words1.drop 24).drop 24).drop 24).drop 24).drop 24), List.all_append, w_t6, ← List.take_append_drop 24 ((((((words1.drop 24).drop 24).drop 24).drop 24).drop 24).drop 24), List.all_append, w_t7, w_t8]
  rfl
set_option maxRecDepth 65536 in
theorem w_rest : rest_1_c.before args0 about1 = true := by decide +kernel
set_option maxRecDepth 65536 in
theorem w_case : (Jvm.Cond.and given_1 narrow_1).before args0 about1 = true := by decide +kernel
theorem w_applies : (headSpec (Jvm.Cond.code x code maxLocals ret :: tables_1) room_1).applies x e0.platform about1 = true :=
  (Spec.applies_iff w_frames).mpr ⟨w_running, w_runnable, w_alone, w_named, w_hears, w_ripe, w_room, w_tables⟩
theorem atStart : AtStart classFile x code maxLocals ret World_1 tables_1 room_1 Calls_1 rest_1 Pre_1 launch0 p0 e0 about1 theMethod args0 below0 :=
  ⟨lists_1, trivial, launch0.admits_env _ _ _, launch0.least_env, fairChoices_fair.cas, fairChoices_fair.clock, w_frames, w_args, w_heap, w_applies, trivial, w_rest, w_case⟩
end start1
theorem witness_1 : WitnessClaimed_1 := ⟨start1.p0, start1.e0, start1.about1, start1.theMethod, start1.args0, start1.below0, start1.atStart⟩
end Jvm.Pilot.@@N@@
