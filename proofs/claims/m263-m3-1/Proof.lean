import JvmDerived
import JvmDerived.Pilot.@@N@@Statement
import JvmDerived.Pilot.@@N@@Code
set_option linter.unusedVariables false
set_option linter.unusedSimpArgs false
namespace Jvm.RoadKit
open Sem ClassFile Op Lib Jvm.Stand Jvm.Free Jvm.LawKit
/-- the run from S comes to an end that Post allows -/
def own_Fin (tb : Tables) (e : Env) (below : List Frame) (Post : Outcome → State → Prop) (S : State) : Prop := ∃ s₂ o, Steps tb e below S s₂ ∧ s₂.status = .running ∧ Ended s₂ below o ∧ Post o s₂
def own_post (Q : Option Value → Heap → List Loc → Prop) (s : State) (k n : Nat) (o : Outcome) (U : State) : Prop := ∃ v L, o = .returned v ∧ Q v U.heap L ∧ FrameEnd s o U L k n
def own_bool (P : Prop) (v : Option Value) : Prop := (v = some (.int 1) ∧ P) ∨ (v = some (.int 0) ∧ ¬ P)
theorem own_Fin.step {tb : Tables} {e : Env} {below : List Frame} {Post : Outcome → State → Prop} {S S' : State} (h : ∀ t, Steps tb e below S' t → Steps tb e below S t) (k : own_Fin tb e below Post S') : own_Fin tb e below Post S := by
  obtain ⟨s2, o, h1, h2⟩ := k
  exact ⟨s2, o, h _ h1, h2⟩
theorem own_Fin.trans {tb : Tables} {e : Env} {below : List Frame} {Post : Outcome → State → Prop} {S S' : State} (h : Steps tb e below S S') (k : own_Fin tb e below Post S') : own_Fin tb e below Post S := by
  obtain ⟨s2, o, h1, h2⟩ := k
  exact ⟨s2, o, h.trans h1, h2⟩
section New
variable {p : Program} {l : Launch} {e : Env} {R : Room} {s : State} {m : MethodId} {args : Array Value} {below : List Frame} {meth : Method} {c : Code} {T : State} {locs : List Loc} {cells slots : Nat} {Q : Option Value → Heap → List Loc → Prop} {kc ks : Nat} {h : Heap}
theorem retI (X : Stand p l e R s m args below meth c T locs cells slots) (hx : p.tables.exec = Jvm.exec) {pc : Nat} {Ls : Array Slot} {z : Int32} {rest : List Value} (hret : meth.sig.returnType = some .int) (hd : decode c.code pc = .ok (.ireturn, 1)) {fs : List Frame}
    (hl : ∀ (f : JFrame) (acts : List Action), f.method = m → f.locked = none → f.entered = [] → (doReturn e (T.setTop f) acts (some (.int z))).1 = T.setFrames fs) : Steps p.tables e below (T.setTop (mkF m pc Ls (.int z :: rest))) (T.setFrames fs) := by
  have hm' : T.vm.method? m = some meth := X.method'
  have hn : narrow .int (.int z) = .int z := rfl
  show Steps p.tables e below (T.setTop { method := m, pc := pc, locals := Ls, stack := _ :: rest, locked := none }) _
  jvm_step X.here [X.here.top, hx, hd, hm', hret, hn]
  first | (intro acts; rw [hl _ acts rfl rfl rfl]) | rw [hl _ _ rfl rfl rfl]
  exact Steps.refl _
theorem own_retN (X : Stand p l e R s m args below meth c T locs cells slots) (hx : p.tables.exec = Jvm.exec) (hlk : meth.locks = false) {pc : Nat} {Ls : Array Slot} {z : Int32} {t : FieldType} {rest : List Value} (hret : meth.sig.returnType = some t) (ht : t = .boolean ∨ t = .byte ∨ t = .char ∨ t = .short)
    (hd : decode c.code pc = .ok (.ireturn, 1)) (eT : T.heap = h) (hq : Q (some (.int (nar t z))) h locs) (hc : cells ≤ kc) (hs : slots ≤ ks) : own_Fin p.tables e below (own_post Q s kc ks) (T.setTop (mkF m pc Ls (.int z :: rest))) := by
  obtain ⟨fs, hr, hrun, hended, hW, hsame⟩ := X.leave (v := some (.int (nar t z))) (fun h => by rw [hret] at h; cases h) hlk
  exact ⟨_, _, retN X hx hret ht hd hr, hrun, hended, _, _, rfl, (eT ▸ hq : Q (some (.int (nar t z))) T.heap locs), ⟨_, rfl⟩, hW, hsame.mono hc hs⟩
theorem own_retI (X : Stand p l e R s m args below meth c T locs cells slots) (hx : p.tables.exec = Jvm.exec) (hlk : meth.locks = false) {pc : Nat} {Ls : Array Slot} {z : Int32} {rest : List Value} (hret : meth.sig.returnType = some .int)
    (hd : decode c.code pc = .ok (.ireturn, 1)) (eT : T.heap = h) (hq : Q (some (.int z)) h locs) (hc : cells ≤ kc) (hs : slots ≤ ks) : own_Fin p.tables e below (own_post Q s kc ks) (T.setTop (mkF m pc Ls (.int z :: rest))) := by
  obtain ⟨fs, hr, hrun, hended, hW, hsame⟩ := X.leave (v := some (.int z)) (fun h => by rw [hret] at h; cases h) hlk
  exact ⟨_, _, retI X hx hret hd hr, hrun, hended, _, _, rfl, (eT ▸ hq : Q (some (.int z)) T.heap locs), ⟨_, rfl⟩, hW, hsame.mono hc hs⟩
theorem own_retJ (X : Stand p l e R s m args below meth c T locs cells slots) (hx : p.tables.exec = Jvm.exec) (hlk : meth.locks = false) {pc : Nat} {Ls : Array Slot} {z : Int64} (hret : meth.sig.returnType = some .long)
    (hd : decode c.code pc = .ok (.lreturn, 1)) (eT : T.heap = h) (hq : Q (some (.long z)) h locs) (hc : cells ≤ kc) (hs : slots ≤ ks) : own_Fin p.tables e below (own_post Q s kc ks) (T.setTop (mkF m pc Ls [.long z])) := by
  obtain ⟨fs, hr, hrun, hended, hW, hsame⟩ := X.leave (v := some (.long z)) (fun h => by rw [hret] at h; cases h) hlk
  exact ⟨_, _, X.lreturnOut hx hret hd hr, hrun, hended, _, _, rfl, (eT ▸ hq : Q (some (.long z)) T.heap locs), ⟨_, rfl⟩, hW, hsame.mono hc hs⟩
theorem own_retR (X : Stand p l e R s m args below meth c T locs cells slots) (hx : p.tables.exec = Jvm.exec) (hlk : meth.locks = false) {pc : Nat} {Ls : Array Slot} {w : Value} {t : FieldType} (hw : w.isRef = true) (hret : meth.sig.returnType = some t) (ht : t.isReference = true)
    (hd : decode c.code pc = .ok (.areturn, 1)) (eT : T.heap = h) (hq : Q (some w) h locs) (hc : cells ≤ kc) (hs : slots ≤ ks) : own_Fin p.tables e below (own_post Q s kc ks) (T.setTop (mkF m pc Ls [w])) := by
  obtain ⟨fs, hr, hrun, hended, hW, hsame⟩ := X.leave (v := some w) (fun h => by rw [hret] at h; cases h) hlk
  exact ⟨_, _, X.areturnOut hx hw hret ht hd hr, hrun, hended, _, _, rfl, (eT ▸ hq : Q (some w) T.heap locs), ⟨_, rfl⟩, hW, hsame.mono hc hs⟩
theorem own_retV (X : Stand p l e R s m args below meth c T locs cells slots) (hx : p.tables.exec = Jvm.exec) (hlk : meth.locks = false) {pc : Nat} {Ls : Array Slot} (hret : meth.sig.returnType = none)
    (hd : decode c.code pc = .ok (.return_, 1)) (eT : T.heap = h) (hq : Q none h locs) (hc : cells ≤ kc) (hs : slots ≤ ks) : own_Fin p.tables e below (own_post Q s kc ks) (T.setTop (mkF m pc Ls [])) := by
  obtain ⟨fs, hr, hrun, hended, hW, hsame⟩ := X.leave (v := none) (fun _ => rfl) hlk
  exact ⟨_, _, X.returnOut hx hret hd hr, hrun, hended, _, _, rfl, (eT ▸ hq : Q none T.heap locs), ⟨_, rfl⟩, hW, hsame.mono hc hs⟩
theorem own_cat1 {v : Value} (h : v.isRef = true) : v.category = 1 := by cases v <;> simp [Value.isRef, Value.category] at h ⊢
theorem own_catR {a : Addr} : (Value.ref a).category = 1 := rfl
theorem own_catN : Value.null.category = 1 := rfl
theorem own_catI {a : Int32} : (Value.int a).category = 1 := rfl
theorem own_catJ {a : Int64} : (Value.long a).category = 2 := rfl
theorem own_fitR {v : Value} {C : String} (h : v.isRef = true) : fits (.object C) v = true := by cases v <;> simp [Value.isRef, fits] at h ⊢
theorem own_fitA {v : Value} {ty : FieldType} (h : v.isRef = true) : fits (.array ty) v = true := by cases v <;> simp [Value.isRef, fits] at h ⊢
theorem own_selPriv {s : State} {args : Array Value} {y : MethodName} {n : Nat} (hi : (Cond.instantiable y.cls n).before args s = true) (hpriv : s.PrivateAt y) (hinst : (Cond.instanceMethod y).before args s = true) (hy : y.cls ≠ "java/lang/invoke/MethodHandle" ∧ y.cls ≠ "java/lang/invoke/VarHandle") : (Cond.selects y.cls y y).before args s = true := by
  obtain ⟨c, k, h1, h2, -, h4, -, -⟩ := Cond.instantiable_spec hi
  have h5 : k.isInterface = false := by
    cases hk : k.isInterface with
    | false => rfl
    | true => simp [hk] at h4
  exact selects_self_of_private h1 h2 h5 hpriv hinst hy
theorem own_eqI {a b : Term} {args : Array Value} {first st : State} {o : Option Outcome} {idx : List Nat} {y : Int32} (h : (Cond.eq a b).value args first o st idx = some true) (hb : b.eval args first o idx st = some (.int y)) : a.eval args first o idx st = some (.int y) := by
  cases ha : a.eval args first o idx st with
  | none => simp [Cond.value, ha] at h
  | some x => cases x <;> simp [Cond.value, ha, hb] at h ⊢ <;> exact h
theorem own_eqR {a b : Term} {args : Array Value} {first st : State} {o : Option Outcome} {idx : List Nat} {y : Addr} (h : (Cond.eq a b).value args first o st idx = some true) (hb : b.eval args first o idx st = some (.ref y)) : a.eval args first o idx st = some (.ref y) := by
  cases ha : a.eval args first o idx st with
  | none => simp [Cond.value, ha] at h
  | some x => cases x <;> simp [Cond.value, ha, hb] at h ⊢ <;> exact h
theorem own_elem {t : Term} {args : Array Value} {Z : State} {a : Addr} {cl : Cell} {ty : FieldType} {j : Int32} {v : Value} (ev : t.eval args Z none [] Z = some (.ref a)) (A : Arr Z Z.heap a cl ty) (h : (Term.elem t (.int j)).eval args Z none [] Z = some v) : cl.slots[j.toNatClampNeg]? = some v := by
  obtain ⟨a', j', cell, e1, e2, e3, -, e5⟩ := Term.elem_spec h
  cases e1.symm.trans ev
  have e6 : some (Value.int j) = some (Value.int j') := e2
  cases e6
  have := IntBox.arrayAt_of A.1 A.2.1 A.2.2
  cases e3.symm.trans this
  exact e5
theorem own_arv {t : Term} {args : Array Value} {Z : State} {a : Addr} {cl : Cell} {ty : FieldType} {z : Int32} {vs : List Value} {dv : Value} (hf : Fit Z) (ev : t.eval args Z none [] Z = some (.ref a)) (A : Arr Z Z.heap a cl ty) (hl : (Term.length t).eval args Z none [] Z = some (.int z)) (hz : ¬ z < 0) (hn : z.toNatClampNeg = vs.length) (H : HasL cl 0 vs) : Arv Z Z.heap a cl.cls ty z vs dv := by
  have hA := IntBox.arrayAt_of A.1 A.2.1 A.2.2
  have hlt : cl.slots.size < 2 ^ 31 := by
    by_cases hq : cl.slots.size < 2 ^ 31
    · exact hq
    · simp [Term.eval, ev, hA, hq] at hl
  have e := len_f (t := t) (args := args) (first := Z) (o := none) (idx := []) ev hA hlt
  have e2 : cl.slots.size.toInt32 = z := by
    have := e.symm.trans hl
    cases this; rfl
  exact Arv.start hf A hlt e2 hz hn H
end New
end Jvm.RoadKit
namespace Jvm.RoadKit
open Sem ClassFile Op Lib Jvm.Stand Jvm.Free Jvm.LawKit
section Refs
variable {p : Program} {l : Launch} {e : Env} {R : Room} {s : State} {m : MethodId} {args : Array Value} {below : List Frame} {meth : Method} {c : Code} {T : State} {locs : List Loc} {cells slots : Nat} {Z : State} {a0 : Array Value} {h : Heap}
/-- a resolved Fieldref, at the tables where the walk stands -/
theorem own_fref (X : Stand p l e R s m args below meth c T locs cells slots) (hZ : Z.Warmed39 s.vm) {own R0 n d : String} {index : Nat} (hown : s.vm.findClass own = some m.cls) (w : (Cond.fieldRef own index R0 n d).before a0 Z = true) {cf i : Nat} {k : Class} {f : Field} (hf : Z.fieldFound? R0 n d = some (cf, k, i, f)) : T.vm.fieldReady m.cls index cf f := by
  have hT : Z.Warmed39 T.vm := wtrans hZ X.warmed
  have w2 := Cond.fieldRef_warmed39 hT w
  have ho : (Z.setVm T.vm).vm.findClass own = some m.cls := by
    show T.vm.findClass own = some m.cls
    rw [X.warmed.alike.findClass]; exact hown
  obtain ⟨c', k', i', f', h1, h2⟩ := Cond.fieldRef_spec ho (show _ from w2)
  obtain ⟨k2, h3, -⟩ := State.fieldFound?_setVm (s := Z) hT.alike hf
  cases h1.symm.trans h3
  exact h2
theorem own_getFR (X : Stand p l e R s m args below meth c T locs cells slots) (hx : p.tables.exec = Jvm.exec) (hZ : Z.Warmed39 s.vm) {own R0 O n d : String} {index : Nat} (hown : s.vm.findClass own = some m.cls) (w : (Cond.fieldRef own index R0 n d).before a0 Z = true) (via : Via Z R0 O n d)
    (eT : T.heap = h) {a : Addr} {v : Value} (F : Fld Z h a O n d v) {g : JFrame} (hg : g.method = m) {rest : List Value} (hs : g.stack = .ref a :: rest) (hd : decode c.code g.pc = .ok (.getfield index, 3)) : ∃ T', Stand p l e R s m args below meth c T' locs cells slots ∧ T'.heap = h ∧ ∀ target, Steps p.tables e below (T'.setTop { g with pc := g.pc + 3, stack := v :: rest }) target → Steps p.tables e below (T.setTop g) target := by
  obtain ⟨cell, cf, k, i, f, h1, h2, h3, h4, -, -, h7⟩ := F
  have hr := own_fref X hZ hown w (via _ h2)
  refine ⟨T, X, eT, fun target hrest => ?_⟩
  subst hg
  jvm_step X.here [hx, hd, getfield.wp_ready (e := e) (s := T) (f := g) X.here.top hr h3 hs (show T.heap[a]? = some cell by rw [eT]; exact h1) h4 h7]
  exact hrest
/-- a resolved Methodref, at the tables where the walk stands -/
theorem own_mref (X : Stand p l e R s m args below meth c T locs cells slots) (hZ : Z.Warmed39 s.vm) {own : String} {index : Nat} {y : MethodName} (hown : s.vm.findClass own = some m.cls) (w : (Cond.methodRef own index y).before a0 Z = true) {mk : MethodId} (hn : Z.methodNamed? y = some mk) (hy : y.cls ≠ "java/lang/invoke/MethodHandle" ∧ y.cls ≠ "java/lang/invoke/VarHandle") :
    ∃ cY, T.vm.findClass y.cls = some cY ∧ namesResolved T.vm m.cls index cY ∧ T.vm.methodReady m.cls index mk := by
  have hT : Z.Warmed39 T.vm := wtrans hZ X.warmed
  have w2 := Cond.methodRef_warmed39 hT hn hy w
  have ho : (Z.setVm T.vm).vm.findClass own = some m.cls := by
    show T.vm.findClass own = some m.cls
    rw [X.warmed.alike.findClass]; exact hown
  obtain ⟨m', c', ci, b, h1, h2, h3, h4, h5⟩ := Cond.methodRef_spec (e := e) ho (show _ from w2)
  have hn' : (Z.setVm T.vm).methodNamed? y = some mk := by rw [State.methodNamed?_setVm hT.alike]; exact hn
  cases h1.symm.trans (State.methodFound?_of_named hn' hy)
  have hnames : (Z.setVm T.vm).names own index (.method y.cls y.name y.desc) = true := by
    have w3 := Cond.before_iff.mp w2
    simp only [Cond.value, ho, h1, Option.some.injEq, Bool.and_eq_true] at w3
    exact w3.1.1
  obtain ⟨cp, hcp, hn2⟩ := State.names_spec hnames
  obtain ⟨ci', nt, hentry, hnt, -⟩ := namesOf?_method hn2
  obtain ⟨k, cf, hk, hcf, rfl⟩ := State.poolOf?_spec ho hcp
  obtain ⟨b', hask⟩ := memberRef_ask' (e := e) hk hcf hentry hnt
  have hci : ci = ci' := by rw [h4] at hask; simp at hask; exact hask.1
  subst hci
  exact ⟨c', h3, ⟨k, cf, ci, nt, hk, hcf, hentry, h5⟩, h2⟩
/-- a private method of a nest mate by its contract, the entry being resolved -/
theorem own_privR (X : Stand p l e R s m args below meth c T locs cells slots) (hx : p.tables.exec = Jvm.exec) (hZ : Z.Warmed39 s.vm) {own : String} {index kk : Nat} {y : MethodName} (hown : s.vm.findClass own = some m.cls) (w : (Cond.methodRef own index y).before a0 Z = true)
    (wi : (Cond.instanceMethod y).before a0 Z = true) (wp : (Cond.privateMethod y).before a0 Z = true) (wn : (Cond.instantiable y.cls kk).before a0 Z = true) (hy : y.cls ≠ "java/lang/invoke/MethodHandle" ∧ y.cls ≠ "java/lang/invoke/VarHandle")
    {W : Nat} {Pre : Pt → Array Value → Prop} {Post : Pt → Array Value → Option Value → Pt → Prop} (hK : Back l R p e below s args y 3 W Pre Post)
    {g : JFrame} (hg : g.method = m) (hsize : g.locals.size = c.maxLocals) {s₀ : State} (hcome : Steps p.tables e below s₀ (T.setTop g)) {a : Addr} {cell : Cell} (hcell : T.heap[a]? = some cell) (hobj : ∀ q, cell.vm ≠ .statics q)
    {argsL rest : List Value} (hlen : ∀ sig, parseMethodDescriptor y.desc = some sig → argsL.length = sig.parameters.length)
    (hstack : g.stack = argsL.reverse ++ .ref a :: rest) (hW : 2 * g.monitorRoom + (rest.map fun v => v.category).sum ≤ W) (hdg : decode c.code g.pc = .ok (.invokevirtual index, 3))
    {bytes : ByteArray} {maxL : Nat} {ret : Option FieldType} (wc : (Cond.code y bytes maxL ret).before a0 Z = true)
    (hpre : ∀ vm₁, s.WarmedH vm₁ → Pre ⟨T.setVm vm₁, locs, cells, slots⟩ (.ref a :: argsL).toArray) :
    ∃ (v : Option Value) (vm₁ : Vm) (B : Pt), s.WarmedH vm₁ ∧ Stand p l e R s m args below meth c B.U B.locs B.cells B.slots ∧ Post ⟨T.setVm vm₁, locs, cells, slots⟩ (.ref a :: argsL).toArray v B ∧
      Steps p.tables e below s₀ (B.U.setTop { g with pc := g.pc + 3, stack := v.toList ++ rest }) := by
  obtain ⟨mk, methM, hnamed, hmethM, hstM, habM⟩ := Cond.instanceMethod_spec (mvT (args := args) hZ wi)
  obtain ⟨methM', cM, hmethM', -, -, -, -, -, -, hsigM⟩ := Cond.code_spec hnamed (mvT (args := args) hZ wc)
  cases hmethM.symm.trans hmethM'
  have hnZ : Z.methodNamed? y = some mk := by rw [← State.methodNamed?_setVm hZ.alike]; exact hnamed
  obtain ⟨cY, hcY, hnr, hready⟩ := own_mref X hZ hown w hnZ hy
  obtain ⟨cI, kI, i1, i2, -, i4, -, -⟩ := Cond.instantiable_spec (mvT (args := args) hZ wn)
  have hfc := findClass_of_methodNamed hnamed
  cases i1.symm.trans hfc
  have hni : kI.isInterface = false := by
    cases hk : kI.isInterface with
    | false => rfl
    | true => simp [hk] at i4
  have al := X.warmed.alike
  have hcY' : cY = mk.cls := by
    rw [al.findClass, hfc] at hcY
    exact (Option.some.inj hcY).symm
  subst hcY'
  obtain ⟨kx, hkx, hnx⟩ := className_of_methodNamed hnamed
  cases i2.symm.trans hkx
  obtain ⟨k2, hk2, he2⟩ := al.2.2 _ _ i2
  have hpriv : s.PrivateAt y := Cond.privateMethod_at (mvP hZ wp (args := #[]))
  have hsel : selectMethod e.platform s.vm cell.cls mk = .method mk := selectMethod_private hmethM (hpriv mk methM hnamed hmethM)
  have hm2 : T.vm.method? mk = some methM := by rw [al.method?]; exact hmethM
  have hstep : ∀ target, (∀ acts, Steps p.tables e below (doInvoke e (T.setTop { g with stack := rest }) acts mk (.ref a :: argsL).toArray).1 target) → Steps p.tables e below (T.setTop g) target := by
    intro target hrest
    subst hg
    jvm_step X.here [hx, hdg, invokevirtual.wp_named (e := e) (s := T) (f := g) (r := mk) (m := mk) (c' := mk.cls) (k := k2) (k' := k2) (mk := k2) (rmeth := methM) (meth := methM) (a := a) (args := argsL) (rest := rest) (cell := cell)
      X.here.top hnr hk2 (by rw [he2]; exact hni) hready hk2 hm2 (by rw [he2]; simp [signaturePolymorphic, hnx, hy.1, hy.2]) hstM (hlen _ hsigM) hstack hcell hobj
      (by rw [al.selectMethod]; exact hsel) hm2 habM hk2 (by rw [he2]; exact hni)]
    exact hrest
  obtain ⟨v, B, X', hpost, hsteps⟩ := hK m meth c ⟨T, locs, cells, slots⟩ { g with stack := rest } (.invokevirtual index) mk (Value.ref a :: argsL).toArray X hg hsize hdg hW (X.named hnamed) (show Pre ⟨T, locs, cells, slots⟩ (Value.ref a :: argsL).toArray from hpre T.vm X.warmed)
  exact ⟨v, T.vm, B, X.warmed, X', hpost, (hcome.trans (hstep _ fun acts => by rw [doInvoke_state]; exact Steps.refl _)).trans hsteps⟩
/-- a private constructor of a nest mate by its contract, the entry being resolved -/
theorem own_initR (X : Stand p l e R s m args below meth c T locs cells slots) (hx : p.tables.exec = Jvm.exec) (hZ : Z.Warmed39 s.vm) {own : String} {index : Nat} {y : MethodName} (hy1 : y.name = "<init>") (hown : s.vm.findClass own = some m.cls) (w : (Cond.methodRef own index y).before a0 Z = true)
    (wi : (Cond.instanceMethod y).before a0 Z = true) (hy : y.cls ≠ "java/lang/invoke/MethodHandle" ∧ y.cls ≠ "java/lang/invoke/VarHandle")
    {W : Nat} {Pre : Pt → Array Value → Prop} {Post : Pt → Array Value → Option Value → Pt → Prop} (hK : Back l R p e below s args y 3 W Pre Post)
    {g : JFrame} (hg : g.method = m) (hsize : g.locals.size = c.maxLocals) {s₀ : State} (hcome : Steps p.tables e below s₀ (T.setTop g)) {a : Addr}
    {argsL rest : List Value} (hlen : ∀ sig, parseMethodDescriptor y.desc = some sig → argsL.length = sig.parameters.length)
    (hstack : g.stack = argsL.reverse ++ .ref a :: rest) (hW : 2 * g.monitorRoom + (rest.map fun v => v.category).sum ≤ W) (hdg : decode c.code g.pc = .ok (.invokespecial index, 3))
    {bytes : ByteArray} {maxL : Nat} {ret : Option FieldType} (wc : (Cond.code y bytes maxL ret).before a0 Z = true)
    (hpre : ∀ vm₁, s.WarmedH vm₁ → Pre ⟨T.setVm vm₁, locs, cells, slots⟩ (.ref a :: argsL).toArray) :
    ∃ (v : Option Value) (vm₁ : Vm) (B : Pt), s.WarmedH vm₁ ∧ Stand p l e R s m args below meth c B.U B.locs B.cells B.slots ∧ Post ⟨T.setVm vm₁, locs, cells, slots⟩ (.ref a :: argsL).toArray v B ∧
      Steps p.tables e below s₀ (B.U.setTop { g with pc := g.pc + 3, stack := v.toList ++ rest }) := by
  obtain ⟨mk, methM, hnamed, hmethM, hstM, habM⟩ := Cond.instanceMethod_spec (mvT (args := args) hZ wi)
  obtain ⟨methM', cM, hmethM', -, -, -, -, -, -, hsigM⟩ := Cond.code_spec hnamed (mvT (args := args) hZ wc)
  cases hmethM.symm.trans hmethM'
  have hnZ : Z.methodNamed? y = some mk := by rw [← State.methodNamed?_setVm hZ.alike]; exact hnamed
  obtain ⟨cY, hcY, hnr, hready⟩ := own_mref X hZ hown w hnZ hy
  have hfc := findClass_of_methodNamed hnamed
  have al := X.warmed.alike
  have hcY' : cY = mk.cls := by
    rw [al.findClass, hfc] at hcY
    exact (Option.some.inj hcY).symm
  subst hcY'
  obtain ⟨kx, hkx, hnx⟩ := className_of_methodNamed hnamed
  obtain ⟨k2, hk2, he2⟩ := al.2.2 _ _ hkx
  have hm2 : T.vm.method? mk = some methM := by rw [al.method?]; exact hmethM
  obtain ⟨hname, hdesc⟩ := name_of_methodNamed hnamed hmethM
  have hstep : ∀ target, (∀ acts, Steps p.tables e below (doInvoke e (T.setTop { g with stack := rest }) acts mk (.ref a :: argsL).toArray).1 target) → Steps p.tables e below (T.setTop g) target := by
    intro target hrest
    subst hg
    jvm_step X.here [hx, hdg, invokespecial.wp_init (e := e) (s := T) (f := g) (m := mk) (k := k2) (meth := methM) (a := a) (args := argsL) (rest := rest)
      X.here.top hnr hready hk2 hm2 (hname.trans hy1) hstM habM (by rw [al.lookupSpecial, hdesc, ← hy1]; exact lookupSpecial_of_named hnamed hmethM hstM) (hlen _ hsigM) hstack]
    exact hrest
  obtain ⟨v, B, X', hpost, hsteps⟩ := hK m meth c ⟨T, locs, cells, slots⟩ { g with stack := rest } (.invokespecial index) mk (Value.ref a :: argsL).toArray X hg hsize hdg hW (X.named hnamed) (show Pre ⟨T, locs, cells, slots⟩ (Value.ref a :: argsL).toArray from hpre T.vm X.warmed)
  exact ⟨v, T.vm, B, X.warmed, X', hpost, (hcome.trans (hstep _ fun acts => by rw [doInvoke_state]; exact Steps.refl _)).trans hsteps⟩
/-- a field of a nest mate is written, the entry being resolved; the field isn't final -/
theorem own_putFR (X : Stand p l e R s m args below meth c T locs cells slots) (hx : p.tables.exec = Jvm.exec) (hZ : Z.Warmed39 s.vm) {own O n d C : String} {index kk : Nat} {ty : FieldType} (hown : s.vm.findClass own = some m.cls) (w : (Cond.fieldRef own index O n d).before a0 Z = true)
    (eT : T.heap = h) {a : Addr} {v old : Value} (F : Fld Z h a O n d old) (E : Exa Z h a C) (L : (Cond.lays C O n d).before a0 Z = true) (wi : (Cond.instantiable C kk).before a0 Z = true)
    (hty : parseFieldDescriptor d = some ty) (hn : narrow ty v = v) (hf : fits ty v = true) {g : JFrame} (hg : g.method = m) {rest : List Value} (hs : g.stack = v :: .ref a :: rest) (hd : decode c.code g.pc = .ok (.putfield index, 3)) :
    ∃ T' h', Stand p l e R s m args below meth c T' (locs ++ [⟨a, slotOf Z O n d⟩]) cells slots ∧ T'.heap = h' ∧ Wr h h' a (slotOf Z O n d) v ∧ ∀ target, Steps p.tables e below (T'.setTop { g with pc := g.pc + 3, stack := rest }) target → Steps p.tables e below (T.setTop g) target := by
  obtain ⟨cell, cf, k, i, f, h1, h2, h3, h4, h5, h6, h7⟩ := F
  obtain ⟨cell', kc, e1, e2, e3, e4, e5⟩ := E
  cases h1.symm.trans e1
  obtain ⟨c1, k1, cf1, kf1, i1, f1, a1, a2, a3, a4, a5, a6, a7, -⟩ := Cond.lays_spec L
  cases h2.symm.trans a3
  cases e2.symm.trans a1
  cases e3.symm.trans a2
  obtain ⟨c2, k2, j1, j2, j3, -⟩ := Cond.instantiable_spec wi
  cases e2.symm.trans j1
  cases e3.symm.trans j2
  have hft := (State.fieldFound?_type h2 hty).2
  have hr := own_fref X hZ hown w h2
  have hlt : f.slot < cell.slots.size := (Array.getElem?_eq_some_iff.mp h7).1
  have hst : cell.vm.isStatics = false := e4
  have hq : Z.slotType? cell.cls cell.vm f.slot = some ty := by
    simp only [State.slotType?, e3, Option.bind_eq_bind, Option.bind_some, j3]
    cases hv : cell.vm <;> first | (rw [hv] at hst; exact Bool.noConfusion hst) | (rw [a7, hft])
  have hfit : Z.fitsSlot cell.cls cell.vm f.slot v = true := by simp [State.fitsSlot, hq, hf]
  have hT : Z.Warmed39 T.vm := wtrans hZ X.warmed
  have hfitT : T.fitsSlot cell.cls cell.vm f.slot v = true := by
    have := hfit
    rw [← State.fitsSlot_setVm hT.alike] at this
    exact this
  have hsl : slotOf Z O n d = f.slot := by simp [slotOf, h2]
  obtain ⟨X', st⟩ := X.putfieldReady hx hr h3 (Or.inl a5) (show T.heap[a]? = some cell by rw [eT]; exact h1) h4 hlt (by rw [hft]; exact hn) hfitT hg hs hd
  rw [hsl]
  exact ⟨_, _, X', rfl, ⟨cell, h1, hst, hlt, by subst eT; rfl⟩, st⟩
end Refs
end Jvm.RoadKit
namespace Jvm.RoadKit
open Sem ClassFile Op Lib Jvm.Stand Jvm.Free Jvm.LawKit
section Sync
variable {p : Program} {l : Launch} {e : Env} {R : Room} {s : State} {m : MethodId} {args : Array Value} {below : List Frame} {meth : Method} {c : Code} {T : State} {locs : List Loc} {cells slots : Nat} {Z : State} {a0 : Array Value} {h h' : Heap}
theorem own_sigC {y : MethodName} {bytes : ByteArray} {maxL : Nat} {ret : Option FieldType} (wc : (Cond.code y bytes maxL ret).before args s = true) : ∀ mk methM, s.methodNamed? y = some mk → s.vm.method? mk = some methM → parseMethodDescriptor y.desc = some methM.sig := fun mk mm hn hm => by
  obtain ⟨m2, c2, q1, -, -, -, -, -, -, hs⟩ := Cond.code_spec hn wc
  cases hm.symm.trans q1
  exact hs
theorem own_sigS {y : MethodName} {bytes : ByteArray} {maxL : Nat} {ret : Option FieldType} (wc : (Cond.codeSync y bytes maxL ret).before args s = true) : ∀ mk methM, s.methodNamed? y = some mk → s.vm.method? mk = some methM → parseMethodDescriptor y.desc = some methM.sig := fun mk mm hn hm => by
  obtain ⟨m2, c2, q1, -, -, -, -, -, -, hs⟩ := Cond.codeSync_spec hn wc
  cases hm.symm.trans q1
  exact hs
/-- a private method by its contract, whatever its entry word is; 'selects' of any class below it -/
theorem own_privG (X : Stand p l e R s m args below meth c T locs cells slots) (hx : p.tables.exec = Jvm.exec) {own C : String} {index : Nat} {y : MethodName} (hown : s.vm.findClass own = some m.cls) (hlink : (Cond.methodLink own index y).before args s = true)
    (hinst : (Cond.instanceMethod y).before args s = true) (hsel : (Cond.selects C y y).before args s = true) (hpriv : s.PrivateAt y) (hsig : ∀ mk methM, s.methodNamed? y = some mk → s.vm.method? mk = some methM → parseMethodDescriptor y.desc = some methM.sig)
    (hy : y.cls ≠ "java/lang/invoke/MethodHandle" ∧ y.cls ≠ "java/lang/invoke/VarHandle") {W : Nat} {Pre : Pt → Array Value → Prop} {Post : Pt → Array Value → Option Value → Pt → Prop} (hK : Back l R p e below s args y 3 W Pre Post)
    {g : JFrame} (hg : g.method = m) (hsize : g.locals.size = c.maxLocals) {s₀ : State} (hcome : Steps p.tables e below s₀ (T.setTop g)) {a : Addr} {cell : Cell} (hcell : T.heap[a]? = some cell) (hobj : ∀ q, cell.vm ≠ .statics q)
    {argsL rest : List Value} (hlen : ∀ sig, parseMethodDescriptor y.desc = some sig → argsL.length = sig.parameters.length)
    (hstack : g.stack = argsL.reverse ++ .ref a :: rest) (hW : 2 * g.monitorRoom + (rest.map fun v => v.category).sum ≤ W) (hdg : decode c.code g.pc = .ok (.invokevirtual index, 3))
    (hpre : ∀ vm₁, s.WarmedH vm₁ → Pre ⟨T.setVm vm₁, locs, cells, slots⟩ (.ref a :: argsL).toArray) :
    ∃ (v : Option Value) (vm₁ : Vm) (B : Pt), s.WarmedH vm₁ ∧ Stand p l e R s m args below meth c B.U B.locs B.cells B.slots ∧ Post ⟨T.setVm vm₁, locs, cells, slots⟩ (.ref a :: argsL).toArray v B ∧
      Steps p.tables e below s₀ (B.U.setTop { g with pc := g.pc + 3, stack := v.toList ++ rest }) := by
  obtain ⟨mk, methM, hnamed, hmethM, hstM, habM⟩ := Cond.instanceMethod_spec hinst
  have hsigM := hsig mk methM hnamed hmethM
  obtain ⟨c2, r2, m2, -, -, q3, -, kP, hkP, hkPi⟩ := Cond.selects_spec hsel
  cases hnamed.symm.trans q3
  have hselP : selectMethod e.platform s.vm cell.cls mk = .method mk := selectMethod_private hmethM (hpriv mk methM hnamed hmethM)
  obtain ⟨vm₁, X₁, hstep₁⟩ := X.invokevirtual hx hown hlink hnamed hmethM hstM hkP hkPi hy (a := a) (cell := cell) hcell hobj hselP hmethM habM hkP hkPi (g := g) hg (argsL := argsL) (rest := rest) (hlen _ hsigM) hstack hdg
  obtain ⟨v, B, X', hpost, hsteps⟩ := hK m meth c ⟨T.setVm vm₁, locs, cells, slots⟩ { g with stack := rest } (.invokevirtual index) mk (.ref a :: argsL).toArray X₁ hg hsize hdg hW (X₁.named hnamed) (hpre vm₁ X₁.warmed)
  exact ⟨v, vm₁, B, X₁.warmed, X', hpost, (hcome.trans (hstep₁ _ fun acts => by rw [doInvoke_state]; exact Steps.refl _)).trans hsteps⟩
/-- the payer of a synchronized method, in backOf's shape; the receiver's monitor is free -/
theorem own_backS {y : MethodName} {bytes : ByteArray} {maxL : Nat} {ret : Option FieldType} {rm : Room} {len W : Nat} {as' : Array Value} {a : Addr} {Q : Option Value → Heap → List Loc → Prop}
    (hM : MetFree l y (head1 [Cond.codeSync y bytes maxL ret, Cond.instanceMethod y] rm) (fun as U => as = as' ∧ Z.Warmed39 U.vm ∧ U.heap = h ∧ ∃ cell : Cell, h[a]? = some cell ∧ cell.enterable U.cur) (fun _ _ _ _ _ => True) (fun _ U o U' => ∃ v L, o = .returned v ∧ Q v U'.heap L ∧ FrameEnd U o U' L rm.cells rm.slots))
    (hZ : Z.Warmed39 s.vm) (wc : (Cond.codeSync y bytes maxL ret).before a0 Z = true) (wi : (Cond.instanceMethod y).before a0 Z = true) (wz : (Cond.initialized y.cls).before a0 Z = true) (N : Unt h a) (hf : rm.frames + 1 ≤ R.frames) (hl : W + (maxL + 11) + rm.locals ≤ R.locals) :
    Back l R p e below s args y len W (fun A as => as = as' ∧ A.U.heap = h ∧ A.cells + rm.cells ≤ R.cells ∧ A.slots + rm.slots ≤ R.slots)
      (fun A _ v B => ∃ L, Q v B.U.heap L ∧ B.locs = A.locs ++ L ∧ B.cells = A.cells + rm.cells ∧ B.slots = A.slots + rm.slots) :=
  Jvm.Free.XT.back_of_sync (bytes := bytes) (maxL := maxL) (ret := ret) (E := fun _ _ o t L k n => k = rm.cells ∧ n = rm.slots ∧ ∃ v, o = .returned v ∧ Q v t.heap L) hM hf hl
    (fun m meth c A as Y hp => have hU : Z.Warmed39 A.U.vm := wtrans hZ Y.warmed
      ⟨by show (Cond.and _ (Cond.and _ .tt)).before as A.U = true; rw [Cond.before_and, Cond.before_and, mv hU wc, mv hU wi]; rfl, mv hU wc, mv hU wz, hp.2.2.1, hp.2.2.2⟩)
    (fun m meth c A as g mk Y hp => ⟨hp.1, wtrans hZ Y.warmed, hp.2.1, by obtain ⟨cl, u1, -, u3⟩ := N; exact ⟨cl, u1, by rw [Cell.enterable, u3]; simp⟩⟩)
    (fun _ _ _ _ _ _ _ _ _ => trivial)
    (fun _ _ _ _ ⟨v, L, h1, h2, h3⟩ => ⟨L, _, _, h3, rfl, rfl, v, h1, h2⟩)
    (fun m meth c A as g mk v t L k n Y hp _ _ ⟨e1, e2, v', e3, e4⟩ => by cases e3; subst e1 e2; exact ⟨L, e4, rfl, rfl, rfl⟩)
theorem own_sameDecl {y x z : MethodName} {C : String} (hd : (Cond.declares y).before a0 Z = true) (hs : (Cond.selects C x z).before a0 Z = true) (hz : z.cls = y.cls) (hy : y.cls ≠ "java/lang/invoke/MethodHandle" ∧ y.cls ≠ "java/lang/invoke/VarHandle") : (Cond.sameMethod y.cls y.cls y.name y.desc).before a0 Z = true := by
  obtain ⟨m, meth, hn, -⟩ := Cond.declares_spec hd
  obtain ⟨c, r, m2, -, -, h3, -, mk, h4, h5⟩ := Cond.selects_spec hs
  have hf := State.methodFound?_of_named hn hy
  have hc := findClass_of_methodNamed hn
  have hc2 := findClass_of_methodNamed h3
  rw [hz] at hc2
  have e : m2.cls = m.cls := Option.some.inj (hc2.symm.trans hc)
  rw [e] at h4
  obtain ⟨yc, yn, yd⟩ := y
  simp only at hf hc
  simp [Cond.before, Cond.holds, Cond.value, hc, hf, hn, h4, h5]
theorem own_arvMon {b : Addr} {k : ClassId} {ty : FieldType} {z : Int32} {vs : List Value} {d : Value} (W : Mon h h') (F : Arv Z h b k ty z vs d) : Arv Z h' b k ty z vs d := by
  obtain ⟨c, A, r⟩ := F
  obtain ⟨mo, q⟩ := W.2 _ _ A.1
  exact ⟨_, ⟨q, A.2.1, A.2.2⟩, r⟩
theorem own_oldSet {n0 : Nat} {a : Addr} {c : Cell} (O : Old Z n0 h) (hn : n0 ≤ a) : Old Z n0 (h.setIfInBounds a c) :=
  ⟨O.1, by rw [Array.size_setIfInBounds]; exact O.2.1, fun x d q => by
    have h1 : x < n0 := O.1 ▸ (Array.getElem?_eq_some_iff.mp q).1
    rw [Array.getElem?_setIfInBounds_ne (fun z => absurd (Nat.lt_of_lt_of_le h1 hn) (by rw [z]; exact Nat.lt_irrefl _))]
    exact O.2.2 x d q⟩
theorem own_oldEnd {s0 V : State} {n0 : Nat} {L : List Loc} {k n : Nat} (hs : s0.sameButNew { V with vm := s0.vm } L k n) (N : Fr n0 L) (O : Old Z n0 s0.heap) : Old Z n0 V.heap :=
  ⟨O.1, Nat.le_trans O.2.1 hs.2.1, fun x d q => by
    have h1 : x < n0 := O.1 ▸ (Array.getElem?_eq_some_iff.mp q).1
    obtain ⟨c', hc', he, hsz, hsl⟩ := hs.2.2.2.2.2 x d (O.2.2 x d q)
    have h2 : c'.slots = d.slots := Array.ext (by rw [hsz]) (fun i i1 i2 => by
      have := hsl i (fun z => absurd h1 (Nat.not_lt.mpr (N _ z)))
      rw [Array.getElem?_eq_getElem i1, Array.getElem?_eq_getElem i2] at this
      exact Option.some.inj this)
    have h3 : c' = d := by rw [he, h2]
    rw [← h3]; exact hc'⟩
theorem own_untEnd {s0 V : State} {a : Addr} {L : List Loc} {k n : Nat} (hs : s0.sameButNew { V with vm := s0.vm } L k n) (U : Unt s0.heap a) : Unt V.heap a := by
  obtain ⟨d, q, r1, r2⟩ := U
  obtain ⟨c', hc', he, -⟩ := hs.2.2.2.2.2 a d q
  refine ⟨c', hc', ?_, ?_⟩
  · rw [he]; exact r1
  · rw [he]; exact r2
end Sync
end Jvm.RoadKit
namespace Jvm.RoadKit
open Sem ClassFile Op Lib Jvm.Stand Jvm.Free Jvm.LawKit
theorem own_notFace {s : State} {args : Array Value} {C : String} {x y z : MethodName} (hs : (Cond.selects C x z).before args s = true) (hz : z.cls = y.cls) : NotFace s y := fun r0 h0 => by
  obtain ⟨c, r, m2, -, -, h3, -, mk, h4, h5⟩ := Cond.selects_spec hs
  have hc := findClass_of_methodNamed h0
  have hc2 := findClass_of_methodNamed h3
  rw [hz] at hc2
  have e : m2.cls = r0.cls := Option.some.inj (hc2.symm.trans hc)
  rw [e] at h4
  exact ⟨mk, h4, h5⟩
end Jvm.RoadKit
namespace Jvm.RoadKit
open Sem ClassFile Op Lib Jvm.Stand Jvm.Free Jvm.LawKit
section Cps
variable {p : Program} {l : Launch} {e : Env} {R : Room} {s : State} {m : MethodId} {args : Array Value} {below : List Frame} {meth : Method} {c : Code} {T : State} {locs : List Loc} {cells slots : Nat} {Z : State} {a0 : Array Value} {h : Heap} {Post : Outcome → State → Prop} {pc : Nat} {Ls : Array Slot} {st : List Value}
theorem own_st (q : Nat) (st' : List Value) (h1 : ∀ t, Steps p.tables e below (T.setTop (mkF m q Ls st')) t → Steps p.tables e below (T.setTop (mkF m pc Ls st)) t) (k : own_Fin p.tables e below Post (T.setTop (mkF m q Ls st'))) : own_Fin p.tables e below Post (T.setTop (mkF m pc Ls st)) := own_Fin.step h1 k
theorem own_sl (q : Nat) (Ls' : Array Slot) (st' : List Value) (h1 : ∀ t, Steps p.tables e below (T.setTop (mkF m q Ls' st')) t → Steps p.tables e below (T.setTop (mkF m pc Ls st)) t) (k : own_Fin p.tables e below Post (T.setTop (mkF m q Ls' st'))) : own_Fin p.tables e below Post (T.setTop (mkF m pc Ls st)) := own_Fin.step h1 k
theorem own_o1 {A B : State → Prop} (q : Nat) (st' : List Value) (h1 : ∃ T', A T' ∧ B T' ∧ ∀ t, Steps p.tables e below (T'.setTop (mkF m q Ls st')) t → Steps p.tables e below (T.setTop (mkF m pc Ls st)) t) (k : ∀ T', A T' → B T' → own_Fin p.tables e below Post (T'.setTop (mkF m q Ls st'))) : own_Fin p.tables e below Post (T.setTop (mkF m pc Ls st)) := by
  obtain ⟨T', a, b, t⟩ := h1
  exact own_Fin.step t (k T' a b)
theorem own_o2 {A B C : State → Heap → Prop} (q : Nat) (st' : List Value) (h1 : ∃ T' h', A T' h' ∧ B T' h' ∧ C T' h' ∧ ∀ t, Steps p.tables e below (T'.setTop (mkF m q Ls st')) t → Steps p.tables e below (T.setTop (mkF m pc Ls st)) t) (k : ∀ T' h', A T' h' → B T' h' → C T' h' → own_Fin p.tables e below Post (T'.setTop (mkF m q Ls st'))) : own_Fin p.tables e below Post (T.setTop (mkF m pc Ls st)) := by
  obtain ⟨T', h', a, b, c, t⟩ := h1
  exact own_Fin.step t (k T' h' a b c)
theorem own_nO (X : Stand p l e R s m args below meth c T locs cells slots) (hx : p.tables.exec = Jvm.exec) (hZ : Z.Warmed39 s.vm) {own C : String} {index n : Nat} (hown : s.vm.findClass own = some m.cls) (w : (Cond.classLink own index C).before a0 Z = true) (wi : (Cond.instantiable C n).before a0 Z = true) (wz : (Cond.initialized C).before a0 Z = true) (eT : T.heap = h)
    (q : Nat) (hd : decode c.code pc = .ok (.new index, 3)) (hq : pc + 3 = q) (hc : cells + 1 ≤ R.cells) (hl : slots + n ≤ R.slots)
    (k : ∀ T' h' b, b = h.size → Stand p l e R s m args below meth c T' locs (cells + 1) (slots + n) → T'.heap = h' → Ext h h' → Exa Z h' b C → (∀ {O nm d : String} {ty : FieldType}, Laid Z a0 C O nm d → parseFieldDescriptor d = some ty → Fld Z h' b O nm d (defaultValue ty)) → Unt h' b → own_Fin p.tables e below Post (T'.setTop (mkF m q Ls (.ref b :: st)))) : own_Fin p.tables e below Post (T.setTop (mkF m pc Ls st)) := by
  subst hq
  obtain ⟨T', h', X', e', E', A', D', U', t⟩ := newO X hx hZ hown w wi wz eT (g := mkF m pc Ls st) rfl hd hc hl
  exact own_Fin.step t (k T' h' _ rfl X' e' E' A' D' U')
theorem own_nP (X : Stand p l e R s m args below meth c T locs cells slots) (hx : p.tables.exec = Jvm.exec) (hZ : Z.Warmed39 s.vm) {aty : ArrayType} (w : (Cond.arrayClass (newarray.typeOf aty)).before a0 Z = true) (eT : T.heap = h) (q : Nat) (hd : decode c.code pc = .ok (.newarray aty, 2)) (hq : pc + 2 = q) {n : Int32} {rest : List Value} (hs : st = .int n :: rest)
    (hn : ¬ n < 0) {cap : Nat} (hcap : n.toNatClampNeg ≤ cap) (hb : cap * 8 ≤ 536870912) (hc : cells + 1 ≤ R.cells) (hl : slots + cap ≤ R.slots) {ad : String} (had : "[" ++ (newarray.typeOf aty).toString = ad)
    (k : ∀ T' h' cA b, b = h.size → Stand p l e R s m args below meth c T' locs (cells + 1) (slots + cap) → T'.heap = h' → Ext h h' → Arr Z h' b (newA cA (newarray.typeOf aty) n) (newarray.typeOf aty) → Exa Z h' b ad → own_Fin p.tables e below Post (T'.setTop (mkF m q Ls (.ref b :: rest)))) : own_Fin p.tables e below Post (T.setTop (mkF m pc Ls st)) := by
  subst hq hs
  obtain ⟨T', h', cA, X', e', E', A', B', t⟩ := newPE X hx hZ w eT (g := mkF m pc Ls (.int n :: rest)) rfl hd rfl hn hcap hb hc hl had
  exact own_Fin.step t (k T' h' cA _ rfl X' e' E' A' B')
theorem own_nR (X : Stand p l e R s m args below meth c T locs cells slots) (hx : p.tables.exec = Jvm.exec) (hZ : Z.Warmed39 s.vm) {own C : String} {index : Nat} (hown : s.vm.findClass own = some m.cls) (w1 : (Cond.classLink own index C).before a0 Z = true) (w2 : (Cond.arrayOver (.object C)).before a0 Z = true)
    (eT : T.heap = h) (q : Nat) (hd : decode c.code pc = .ok (.anewarray index, 3)) (hq : pc + 3 = q) {n : Int32} {rest : List Value} (hs : st = .int n :: rest) (hn : ¬ n < 0) {cap : Nat} (hcap : n.toNatClampNeg ≤ cap) (hb : cap * 8 ≤ 536870912) (hc : cells + 1 ≤ R.cells) (hl : slots + cap ≤ R.slots) {ad : String} (had : "[" ++ (FieldType.object C).toString = ad)
    (k : ∀ T' h' cA b, b = h.size → Stand p l e R s m args below meth c T' locs (cells + 1) (slots + cap) → T'.heap = h' → Ext h h' → Arr Z h' b (newA cA (.object C) n) (.object C) → Exa Z h' b ad → Ovr Z cA C → own_Fin p.tables e below Post (T'.setTop (mkF m q Ls (.ref b :: rest)))) : own_Fin p.tables e below Post (T.setTop (mkF m pc Ls st)) := by
  subst hq hs
  obtain ⟨T', h', cA, X', e', E', A', B', O', t⟩ := newRE X hx hZ hown w1 w2 eT (g := mkF m pc Ls (.int n :: rest)) rfl hd rfl hn hcap hb hc hl had
  exact own_Fin.step t (k T' h' cA _ rfl X' e' E' A' B' O')
theorem own_go (q : Nat) (X : Stand p l e R s m args below meth c T locs cells slots) (hx : p.tables.exec = Jvm.exec) {o : Int} (hd : decode c.code pc = .ok (.goto o, 3)) (ho : 0 ≤ (pc : Int) + o) (hp : ((pc : Int) + o).toNat = q) (k : own_Fin p.tables e below Post (T.setTop (mkF m q Ls st))) : own_Fin p.tables e below Post (T.setTop (mkF m pc Ls st)) :=
  own_Fin.step (fun t r => XS.goto X.here hx rfl (pc0 := pc) (pc' := q) rfl hd ho hp r) k
theorem own_iY (q : Nat) (X : Stand p l e R s m args below meth c T locs cells slots) (hx : p.tables.exec = Jvm.exec) {cd : ClassFile.Cond} {x : Int32} {rest : List Value} {o : Int} (hd : decode c.code pc = .ok (.ifCond cd o, 3)) (hs : st = .int x :: rest) (hc : ifCond.holds cd x = true) (ho : 0 ≤ (pc : Int) + o) (hp : ((pc : Int) + o).toNat = q) (k : own_Fin p.tables e below Post (T.setTop (mkF m q Ls rest))) : own_Fin p.tables e below Post (T.setTop (mkF m pc Ls st)) :=
  own_Fin.step (fun t r => XS.ifYes X.here hx rfl (pc0 := pc) (pc' := q) rfl hd hs hc ho hp r) k
theorem own_iN (q : Nat) (X : Stand p l e R s m args below meth c T locs cells slots) (hx : p.tables.exec = Jvm.exec) {cd : ClassFile.Cond} {x : Int32} {rest : List Value} {o : Int} (hd : decode c.code pc = .ok (.ifCond cd o, 3)) (hs : st = .int x :: rest) (hc : ifCond.holds cd x = false) (hq : pc + 3 = q) (k : own_Fin p.tables e below Post (T.setTop (mkF m q Ls rest))) : own_Fin p.tables e below Post (T.setTop (mkF m pc Ls st)) := by
  subst hq
  exact own_Fin.step (fun t r => XS.ifNo X.here hx rfl hd hs hc r) k
theorem own_kY (q : Nat) (X : Stand p l e R s m args below meth c T locs cells slots) (hx : p.tables.exec = Jvm.exec) {cd : ClassFile.Cond} {x y : Int32} {rest : List Value} {o : Int} (hd : decode c.code pc = .ok (.if_icmp cd o, 3)) (hs : st = .int y :: .int x :: rest) (hc : if_icmp.holds cd x y = true) (ho : 0 ≤ (pc : Int) + o) (hp : ((pc : Int) + o).toNat = q) (k : own_Fin p.tables e below Post (T.setTop (mkF m q Ls rest))) : own_Fin p.tables e below Post (T.setTop (mkF m pc Ls st)) :=
  own_Fin.step (fun t r => XS.icmpYes X.here hx rfl (pc0 := pc) (pc' := q) rfl hd hs hc ho hp r) k
theorem own_kN (q : Nat) (X : Stand p l e R s m args below meth c T locs cells slots) (hx : p.tables.exec = Jvm.exec) {cd : ClassFile.Cond} {x y : Int32} {rest : List Value} {o : Int} (hd : decode c.code pc = .ok (.if_icmp cd o, 3)) (hs : st = .int y :: .int x :: rest) (hc : if_icmp.holds cd x y = false) (hq : pc + 3 = q) (k : own_Fin p.tables e below Post (T.setTop (mkF m q Ls rest))) : own_Fin p.tables e below Post (T.setTop (mkF m pc Ls st)) := by
  subst hq
  exact own_Fin.step (fun t r => XS.icmpNo X.here hx rfl hd hs hc r) k
theorem own_gF (X : Stand p l e R s m args below meth c T locs cells slots) (hx : p.tables.exec = Jvm.exec) (hZ : Z.Warmed39 s.vm) {own R0 O n d host : String} {index : Nat} (hown : s.vm.findClass own = some m.cls) (w : (Cond.fieldLink own index R0 n d).before a0 Z = true ∨ (Cond.fieldLinkNest own index R0 n d host).before a0 Z = true) (via : Via Z R0 O n d) (eT : T.heap = h) {a : Addr} {v : Value} (F : Fld Z h a O n d v) {rest : List Value} (q : Nat) (hs : st = .ref a :: rest) (hd : decode c.code pc = .ok (.getfield index, 3)) (hq : pc + 3 = q)
    (k : ∀ T', Stand p l e R s m args below meth c T' locs cells slots → T'.heap = h → own_Fin p.tables e below Post (T'.setTop (mkF m q Ls (v :: rest)))) : own_Fin p.tables e below Post (T.setTop (mkF m pc Ls st)) := by
  subst hq hs
  obtain ⟨T', a', b', t⟩ := getF X hx hZ hown w via eT F (g := mkF m pc Ls (.ref a :: rest)) rfl rfl hd
  exact own_Fin.step t (k T' a' b')
theorem own_gR (X : Stand p l e R s m args below meth c T locs cells slots) (hx : p.tables.exec = Jvm.exec) (hZ : Z.Warmed39 s.vm) {own O R0 n d : String} {index : Nat} (hown : s.vm.findClass own = some m.cls) (w : (Cond.fieldRef own index R0 n d).before a0 Z = true) (via : Via Z R0 O n d) (eT : T.heap = h) {a : Addr} {v : Value} (F : Fld Z h a O n d v) {rest : List Value} (q : Nat) (hs : st = .ref a :: rest) (hd : decode c.code pc = .ok (.getfield index, 3)) (hq : pc + 3 = q)
    (k : ∀ T', Stand p l e R s m args below meth c T' locs cells slots → T'.heap = h → own_Fin p.tables e below Post (T'.setTop (mkF m q Ls (v :: rest)))) : own_Fin p.tables e below Post (T.setTop (mkF m pc Ls st)) := by
  subst hq hs
  obtain ⟨T', a', b', t⟩ := own_getFR X hx hZ hown w via eT F (g := mkF m pc Ls (.ref a :: rest)) rfl rfl hd
  exact own_Fin.step t (k T' a' b')
theorem own_gS (X : Stand p l e R s m args below meth c T locs cells slots) (hx : p.tables.exec = Jvm.exec) (hZ : Z.Warmed39 s.vm) {own R0 O n d host : String} {index : Nat} (hown : s.vm.findClass own = some m.cls) (w : (Cond.fieldLink own index R0 n d).before a0 Z = true ∨ (Cond.fieldLinkNest own index R0 n d host).before a0 Z = true) (via : Via Z R0 O n d) (eT : T.heap = h) {v : Value} (F : Sta Z h O n d v) (q : Nat) (hd : decode c.code pc = .ok (.getstatic index, 3)) (hq : pc + 3 = q)
    (k : ∀ T', Stand p l e R s m args below meth c T' locs cells slots → T'.heap = h → own_Fin p.tables e below Post (T'.setTop (mkF m q Ls (v :: st)))) : own_Fin p.tables e below Post (T.setTop (mkF m pc Ls st)) := by
  subst hq
  obtain ⟨T', a', b', t⟩ := getS2 X hx hZ hown w via eT F (g := mkF m pc Ls st) rfl hd
  exact own_Fin.step t (k T' a' b')
theorem own_ca (X : Stand p l e R s m args below meth c T locs cells slots) (hx : p.tables.exec = Jvm.exec) (hZ : Z.Warmed39 s.vm) {own K : String} {index : Nat} (hown : s.vm.findClass own = some m.cls) (w : (Cond.classLink own index K).before a0 Z = true) (eT : T.heap = h) {a : Addr} (F : Ins Z h a K true) {rest : List Value} (q : Nat) (hs : st = .ref a :: rest) (hd : decode c.code pc = .ok (.checkcast index, 3)) (hq : pc + 3 = q)
    (k : ∀ T', Stand p l e R s m args below meth c T' locs cells slots → T'.heap = h → own_Fin p.tables e below Post (T'.setTop (mkF m q Ls (.ref a :: rest)))) : own_Fin p.tables e below Post (T.setTop (mkF m pc Ls st)) := by
  subst hq hs
  obtain ⟨T', a', b', t⟩ := castY X hx hZ hown w eT F (g := mkF m pc Ls (.ref a :: rest)) rfl rfl hd
  exact own_Fin.step t (k T' a' b')
theorem own_iO (X : Stand p l e R s m args below meth c T locs cells slots) (hx : p.tables.exec = Jvm.exec) (hZ : Z.Warmed39 s.vm) {own : String} {idx : Nat} (hown : s.vm.findClass own = some m.cls) (w1 : (Cond.methodLink own idx Lib.objectInit).before a0 Z = true) (w2 : (Cond.instanceMethod Lib.objectInit).before a0 Z = true) (w3 : (Cond.code Lib.objectInit ⟨#[0xb1]⟩ 1 none).before a0 Z = true) (eT : T.heap = h) {a : Addr} {rest : List Value} (q W : Nat) (hsz : Ls.size = c.maxLocals) (hs : st = .ref a :: rest) (hd : decode c.code pc = .ok (.invokespecial idx, 3)) (hq : pc + 3 = q) (hf : 1 ≤ R.frames) (hW : 2 * 0 + (rest.map fun v => v.category).sum = W) (hl : W + 12 ≤ R.locals)
    (k : ∀ T', Stand p l e R s m args below meth c T' locs cells slots → T'.heap = h → own_Fin p.tables e below Post (T'.setTop (mkF m q Ls (rest)))) : own_Fin p.tables e below Post (T.setTop (mkF m pc Ls st)) := by
  subst hq hs
  obtain ⟨T', a', b', t⟩ := initO X hx hZ hown w1 w2 w3 eT (g := mkF m pc Ls (.ref a :: rest)) rfl hsz rfl hd hf (W := W) (Nat.le_of_eq hW) hl
  exact own_Fin.step t (k T' a' b')
theorem own_pF (X : Stand p l e R s m args below meth c T locs cells slots) (hx : p.tables.exec = Jvm.exec) (hZ : Z.Warmed39 s.vm) {own R0 O n d host C : String} {index kk : Nat} {ty : FieldType} (hown : s.vm.findClass own = some m.cls) (w : (Cond.fieldLink own index R0 n d).before a0 Z = true ∨ (Cond.fieldLinkNest own index R0 n d host).before a0 Z = true) (via : Via Z R0 O n d) (eT : T.heap = h) {a : Addr} {v old : Value} (F : Fld Z h a O n d old) (E : Exa Z h a C) (L : (Cond.lays C O n d).before a0 Z = true ∨ ((Cond.laysFinal C O n d).before a0 Z = true ∧ own = O ∧ meth.name = "<init>")) (wi : (Cond.instantiable C kk).before a0 Z = true) (hty : parseFieldDescriptor d = some ty) (hn : narrow ty v = v) (hf : fits ty v = true) {rest : List Value} (q : Nat) (hs : st = v :: .ref a :: rest) (hd : decode c.code pc = .ok (.putfield index, 3)) (hq : pc + 3 = q)
    (k : ∀ T' h', Stand p l e R s m args below meth c T' (locs ++ [⟨a, slotOf Z O n d⟩]) cells slots → T'.heap = h' → Wr h h' a (slotOf Z O n d) v → own_Fin p.tables e below Post (T'.setTop (mkF m q Ls rest))) : own_Fin p.tables e below Post (T.setTop (mkF m pc Ls st)) := by
  subst hq hs
  obtain ⟨T', h', a', b', c', t⟩ := putF X hx hZ hown w via eT F E L wi hty hn hf (g := mkF m pc Ls (v :: .ref a :: rest)) rfl rfl hd
  exact own_Fin.step t (k T' h' a' b' c')
theorem own_pN (X : Stand p l e R s m args below meth c T locs cells slots) (hx : p.tables.exec = Jvm.exec) (hZ : Z.Warmed39 s.vm) {own R0 O n d C : String} {index kk : Nat} {ty : FieldType} (hown : s.vm.findClass own = some m.cls) (w : (Cond.fieldLink own index R0 n d).before a0 Z = true) (via : Via Z R0 O n d) (eT : T.heap = h) {a : Addr} {v v' old : Value} (F : Fld Z h a O n d old) (E : Exa Z h a C) (L : (Cond.lays C O n d).before a0 Z = true ∨ ((Cond.laysFinal C O n d).before a0 Z = true ∧ own = O ∧ meth.name = "<init>")) (wi : (Cond.instantiable C kk).before a0 Z = true) (hty : parseFieldDescriptor d = some ty) (hn : narrow ty v = v') (hf : fits ty v' = true) {rest : List Value} (q : Nat) (hs : st = v :: .ref a :: rest) (hd : decode c.code pc = .ok (.putfield index, 3)) (hq : pc + 3 = q)
    (k : ∀ T' h', Stand p l e R s m args below meth c T' (locs ++ [⟨a, slotOf Z O n d⟩]) cells slots → T'.heap = h' → Wr h h' a (slotOf Z O n d) v' → own_Fin p.tables e below Post (T'.setTop (mkF m q Ls rest))) : own_Fin p.tables e below Post (T.setTop (mkF m pc Ls st)) := by
  subst hq hs
  obtain ⟨T', h', a', b', c', t⟩ := putFN X hx hZ hown w via eT F E L wi hty hn hf (g := mkF m pc Ls (v :: .ref a :: rest)) rfl rfl hd
  exact own_Fin.step t (k T' h' a' b' c')
theorem own_pR (X : Stand p l e R s m args below meth c T locs cells slots) (hx : p.tables.exec = Jvm.exec) (hZ : Z.Warmed39 s.vm) {own O n d C : String} {index kk : Nat} {ty : FieldType} (hown : s.vm.findClass own = some m.cls) (w : (Cond.fieldRef own index O n d).before a0 Z = true) (eT : T.heap = h) {a : Addr} {v old : Value} (F : Fld Z h a O n d old) (E : Exa Z h a C) (L : (Cond.lays C O n d).before a0 Z = true) (wi : (Cond.instantiable C kk).before a0 Z = true) (hty : parseFieldDescriptor d = some ty) (hn : narrow ty v = v) (hf : fits ty v = true) {rest : List Value} (q : Nat) (hs : st = v :: .ref a :: rest) (hd : decode c.code pc = .ok (.putfield index, 3)) (hq : pc + 3 = q)
    (k : ∀ T' h', Stand p l e R s m args below meth c T' (locs ++ [⟨a, slotOf Z O n d⟩]) cells slots → T'.heap = h' → Wr h h' a (slotOf Z O n d) v → own_Fin p.tables e below Post (T'.setTop (mkF m q Ls rest))) : own_Fin p.tables e below Post (T.setTop (mkF m pc Ls st)) := by
  subst hq hs
  obtain ⟨T', h', a', b', c', t⟩ := own_putFR X hx hZ hown w eT F E L wi hty hn hf (g := mkF m pc Ls (v :: .ref a :: rest)) rfl rfl hd
  exact own_Fin.step t (k T' h' a' b' c')
theorem own_cS (X : Stand p l e R s m args below meth c T locs cells slots) (hx : p.tables.exec = Jvm.exec) (hZ : Z.Warmed39 s.vm) {own : String} {index : Nat} {y : MethodName} {bytes : ByteArray} {maxL : Nat} {ret : Option FieldType} {rm : Room} {Q : Option Value → Heap → List Loc → Prop} {as' : Array Value} (hown : s.vm.findClass own = some m.cls) (w1 : (Cond.methodLink own index y).before a0 Z = true) (w2 : (Cond.static y).before a0 Z = true) (hy : y.cls ≠ "java/lang/invoke/MethodHandle" ∧ y.cls ≠ "java/lang/invoke/VarHandle")
    (wc : (Cond.code y bytes maxL ret).before a0 Z = true) (wz : (Cond.initialized y.cls).before a0 Z = true) (hM : MetFree l y (head1 [Cond.code y bytes maxL ret] rm) (fun as U => as = as' ∧ Z.Warmed39 U.vm ∧ U.heap = h) (fun _ _ _ _ _ => True) (fun _ U o U' => ∃ v L, o = .returned v ∧ Q v U'.heap L ∧ FrameEnd U o U' L rm.cells rm.slots))
    (eT : T.heap = h) (argsL rest : List Value) (q W : Nat) (hd : decode c.code pc = .ok (.invokestatic index, 3)) (hq : pc + 3 = q) (hsz : Ls.size = c.maxLocals) (has : argsL.toArray = as') (hst : st = argsL.reverse ++ rest) (hlen : ∀ sig, parseMethodDescriptor y.desc = some sig → argsL.length = sig.parameters.length) (hW : 2 * 0 + (rest.map fun v => v.category).sum = W) (hr : (rm.frames + 1 ≤ R.frames ∧ W + (maxL + 11) + rm.locals ≤ R.locals) ∧ cells + rm.cells ≤ R.cells ∧ slots + rm.slots ≤ R.slots)
    (k : ∀ v T' L, Stand p l e R s m args below meth c T' (locs ++ L) (cells + rm.cells) (slots + rm.slots) → Q v T'.heap L → own_Fin p.tables e below Post (T'.setTop (mkF m q Ls (v.toList ++ rest)))) : own_Fin p.tables e below Post (T.setTop (mkF m pc Ls st)) := by
  subst hst hq has
  obtain ⟨v, vm1, ⟨T', L', k', n'⟩, -, X', ⟨Lc, hQ, l', y', z'⟩, t'⟩ := Jvm.LawKit.callS X hx (y := y) hown (mvT hZ w1) (mvT hZ w2) (mvT hZ wz) (mvT hZ wc) hy (backOf (W := W) hM hZ wc wz hr.1.1 hr.1.2) (g := mkF m pc Ls (argsL.reverse ++ rest)) rfl hsz (argsL := argsL) (rest := rest) hlen rfl (Nat.le_of_eq hW) hd (fun _ _ => ⟨rfl, eT, hr.2.1, hr.2.2⟩)
  dsimp only [Pt.U, Pt.locs, Pt.cells, Pt.slots] at X' l' y' z' t' hQ
  subst l' y' z'
  exact own_Fin.step t' (k v T' Lc X' hQ)
theorem own_cN (X : Stand p l e R s m args below meth c T locs cells slots) (hx : p.tables.exec = Jvm.exec) (hZ : Z.Warmed39 s.vm) {own : String} {index : Nat} {y : MethodName} {bytes : ByteArray} {maxL : Nat} {rm : Room} {Q : Option Value → Heap → List Loc → Prop} {as' : Array Value} {a : Addr} (hown : s.vm.findClass own = some m.cls) (hy1 : y.name = "<init>") (w1 : (Cond.methodLink own index y).before a0 Z = true) (w3 : (Cond.instanceMethod y).before a0 Z = true) (hy : y.cls ≠ "java/lang/invoke/MethodHandle" ∧ y.cls ≠ "java/lang/invoke/VarHandle")
    (wc : (Cond.code y bytes maxL none).before a0 Z = true) (wz : (Cond.initialized y.cls).before a0 Z = true) (hM : MetFree l y (head1 [Cond.code y bytes maxL none] rm) (fun as U => as = as' ∧ Z.Warmed39 U.vm ∧ U.heap = h) (fun _ _ _ _ _ => True) (fun _ U o U' => ∃ v L, o = .returned v ∧ Q v U'.heap L ∧ FrameEnd U o U' L rm.cells rm.slots))
    (eT : T.heap = h) (argsL rest : List Value) (q W : Nat) (hd : decode c.code pc = .ok (.invokespecial index, 3)) (hq : pc + 3 = q) (hsz : Ls.size = c.maxLocals) (has : (.ref a :: argsL).toArray = as') (hst : st = argsL.reverse ++ .ref a :: rest) (hlen : ∀ sig, parseMethodDescriptor y.desc = some sig → argsL.length = sig.parameters.length) (hW : 2 * 0 + (rest.map fun v => v.category).sum = W) (hr : (rm.frames + 1 ≤ R.frames ∧ W + (maxL + 11) + rm.locals ≤ R.locals) ∧ cells + rm.cells ≤ R.cells ∧ slots + rm.slots ≤ R.slots)
    (k : ∀ v T' L, Stand p l e R s m args below meth c T' (locs ++ L) (cells + rm.cells) (slots + rm.slots) → Q v T'.heap L → own_Fin p.tables e below Post (T'.setTop (mkF m q Ls (v.toList ++ rest)))) : own_Fin p.tables e below Post (T.setTop (mkF m pc Ls st)) := by
  subst hst hq has
  obtain ⟨v, vm1, ⟨T', L', k', n'⟩, -, X', ⟨Lc, hQ, l', y', z'⟩, t'⟩ := X.specialBack hx (y := y) hy1 hown (mvT hZ w1) (mvT hZ w3) (mvT hZ wc) hy (backOf (W := W) hM hZ wc wz hr.1.1 hr.1.2) (g := mkF m pc Ls (argsL.reverse ++ .ref a :: rest)) rfl hsz (Steps.refl _) (a := a) (argsL := argsL) (rest := rest) hlen rfl (Nat.le_of_eq hW) hd (fun _ _ => ⟨rfl, eT, hr.2.1, hr.2.2⟩)
  dsimp only [Pt.U, Pt.locs, Pt.cells, Pt.slots] at X' l' y' z' t' hQ
  subst l' y' z'
  exact own_Fin.trans t' (k v T' Lc X' hQ)
theorem own_cV (X : Stand p l e R s m args below meth c T locs cells slots) (hx : p.tables.exec = Jvm.exec) (hZ : Z.Warmed39 s.vm) {own : String} {C : String} {index : Nat} {x y : MethodName} {bytes : ByteArray} {maxL : Nat} {ret : Option FieldType} {rm : Room} {Q : Option Value → Heap → List Loc → Prop} {as' : Array Value} {a : Addr} (hown : s.vm.findClass own = some m.cls) (w1 : (Cond.methodLink own index x).before a0 Z = true) (w2 : (Cond.declares x).before a0 Z = true) (nf : NotFace s x) (w4 : (Cond.selects C x y).before a0 Z = true) (w3 : (Cond.instanceMethod y).before a0 Z = true) (hy : x.cls ≠ "java/lang/invoke/MethodHandle" ∧ x.cls ≠ "java/lang/invoke/VarHandle")
    (wc : (Cond.code y bytes maxL ret).before a0 Z = true) (wz : (Cond.initialized y.cls).before a0 Z = true) (hM : MetFree l y (head1 [Cond.code y bytes maxL ret] rm) (fun as U => as = as' ∧ Z.Warmed39 U.vm ∧ U.heap = h) (fun _ _ _ _ _ => True) (fun _ U o U' => ∃ v L, o = .returned v ∧ Q v U'.heap L ∧ FrameEnd U o U' L rm.cells rm.slots))
    (eT : T.heap = h) (E : Exa Z h a C) (argsL rest : List Value) (q W : Nat) (hd : decode c.code pc = .ok (.invokevirtual index, 3)) (hq : pc + 3 = q) (hsz : Ls.size = c.maxLocals) (has : (.ref a :: argsL).toArray = as') (hst : st = argsL.reverse ++ .ref a :: rest) (hlen : ∀ sig, parseMethodDescriptor x.desc = some sig → argsL.length = sig.parameters.length) (hW : 2 * 0 + (rest.map fun v => v.category).sum = W) (hr : (rm.frames + 1 ≤ R.frames ∧ W + (maxL + 11) + rm.locals ≤ R.locals) ∧ cells + rm.cells ≤ R.cells ∧ slots + rm.slots ≤ R.slots)
    (k : ∀ v T' L, Stand p l e R s m args below meth c T' (locs ++ L) (cells + rm.cells) (slots + rm.slots) → Q v T'.heap L → own_Fin p.tables e below Post (T'.setTop (mkF m q Ls (v.toList ++ rest)))) : own_Fin p.tables e below Post (T.setTop (mkF m pc Ls st)) := by
  subst hst hq has
  obtain ⟨cB, kB, q1, q2, q3⟩ := isOf hZ eT E
  obtain ⟨v, vm1, ⟨T', L', k', n'⟩, -, X', ⟨Lc, hQ, l', y', z'⟩, t'⟩ := X.virtualBack hx (y := x) (z := y) hown (mvT hZ w1) (mvT hZ w2) nf (mvT hZ w4) (mvT hZ w3) hy (backOf (W := W) hM hZ wc wz hr.1.1 hr.1.2) q1 q3 (g := mkF m pc Ls (argsL.reverse ++ .ref a :: rest)) rfl hsz (Steps.refl _) (argsL := argsL) (rest := rest) hlen rfl (Nat.le_of_eq hW) hd (fun _ _ => ⟨rfl, eT, hr.2.1, hr.2.2⟩)
  dsimp only [Pt.U, Pt.locs, Pt.cells, Pt.slots] at X' l' y' z' t' hQ
  subst l' y' z'
  exact own_Fin.trans t' (k v T' Lc X' hQ)
theorem own_cI (X : Stand p l e R s m args below meth c T locs cells slots) (hx : p.tables.exec = Jvm.exec) (hZ : Z.Warmed39 s.vm) {own : String} {C : String} {index count : Nat} {xi y : MethodName} {bytes : ByteArray} {maxL : Nat} {ret : Option FieldType} {rm : Room} {Q : Option Value → Heap → List Loc → Prop} {as' : Array Value} {a : Addr} (hown : s.vm.findClass own = some m.cls) (w1 : (Cond.methodLink own index xi).before a0 Z = true) (w2 : (Cond.declares xi).before a0 Z = true) (w5 : (Cond.interfaceMethod xi.cls xi.cls xi.name xi.desc).before args s = true) (w4 : (Cond.selects C xi y).before a0 Z = true) (w3 : (Cond.instanceMethod y).before a0 Z = true) (w6 : (Cond.publicMethod y).before a0 Z = true) (w7 : (Cond.unhidden C xi.name xi.desc).before a0 Z = true) (w8 : (Cond.castable C xi.cls).before a0 Z = true) (hy : xi.cls ≠ "java/lang/invoke/MethodHandle" ∧ xi.cls ≠ "java/lang/invoke/VarHandle")
    (wc : (Cond.code y bytes maxL ret).before a0 Z = true) (wz : (Cond.initialized y.cls).before a0 Z = true) (hM : MetFree l y (head1 [Cond.code y bytes maxL ret] rm) (fun as U => as = as' ∧ Z.Warmed39 U.vm ∧ U.heap = h) (fun _ _ _ _ _ => True) (fun _ U o U' => ∃ v L, o = .returned v ∧ Q v U'.heap L ∧ FrameEnd U o U' L rm.cells rm.slots))
    (eT : T.heap = h) (E : Exa Z h a C) (argsL rest : List Value) (q W : Nat) (hd : decode c.code pc = .ok (.invokeinterface index count, 5)) (hq : pc + 5 = q) (hsz : Ls.size = c.maxLocals) (has : (.ref a :: argsL).toArray = as') (hst : st = argsL.reverse ++ .ref a :: rest) (hlen : ∀ sig, parseMethodDescriptor xi.desc = some sig → argsL.length = sig.parameters.length) (hW : 2 * 0 + (rest.map fun v => v.category).sum = W) (hr : (rm.frames + 1 ≤ R.frames ∧ W + (maxL + 11) + rm.locals ≤ R.locals) ∧ cells + rm.cells ≤ R.cells ∧ slots + rm.slots ≤ R.slots)
    (k : ∀ v T' L, Stand p l e R s m args below meth c T' (locs ++ L) (cells + rm.cells) (slots + rm.slots) → Q v T'.heap L → own_Fin p.tables e below Post (T'.setTop (mkF m q Ls (v.toList ++ rest)))) : own_Fin p.tables e below Post (T.setTop (mkF m pc Ls st)) := by
  subst hst hq has
  obtain ⟨cB, kB, q1, q2, q3⟩ := isOf hZ eT E
  obtain ⟨v, vm1, ⟨T', L', k', n'⟩, -, X', ⟨Lc, hQ, l', y', z'⟩, t'⟩ := X.interfaceBack hx (xi := xi) (y := y) hown (mvT hZ w1) (mvT hZ w2) w5 (mvT hZ w4) (mvT hZ w3) (mvT hZ w6) (mvT hZ w7) (mvT hZ w8) hy (backOf (W := W) hM hZ wc wz hr.1.1 hr.1.2) q1 q2 q3 (g := mkF m pc Ls (argsL.reverse ++ .ref a :: rest)) rfl hsz (Steps.refl _) (argsL := argsL) (rest := rest) hlen rfl (Nat.le_of_eq hW) hd (fun _ _ => ⟨rfl, eT, hr.2.1, hr.2.2⟩)
  dsimp only [Pt.U, Pt.locs, Pt.cells, Pt.slots] at X' l' y' z' t' hQ
  subst l' y' z'
  exact own_Fin.trans t' (k v T' Lc X' hQ)
theorem own_cG (X : Stand p l e R s m args below meth c T locs cells slots) (hx : p.tables.exec = Jvm.exec) (hZ : Z.Warmed39 s.vm) {own : String} {C D : String} {index : Nat} {y : MethodName} {bytes : ByteArray} {maxL : Nat} {ret : Option FieldType} {rm : Room} {Q : Option Value → Heap → List Loc → Prop} {as' : Array Value} {a : Addr} (hown : s.vm.findClass own = some m.cls) (w1 : (Cond.methodLink own index y).before a0 Z = true) (w3 : (Cond.instanceMethod y).before a0 Z = true) (hsel : (Cond.selects D y y).before args s = true) (w6 : (Cond.privateMethod y).before a0 Z = true) (hy : y.cls ≠ "java/lang/invoke/MethodHandle" ∧ y.cls ≠ "java/lang/invoke/VarHandle")
    (wc : (Cond.code y bytes maxL ret).before a0 Z = true) (wz : (Cond.initialized y.cls).before a0 Z = true) (hM : MetFree l y (head1 [Cond.code y bytes maxL ret] rm) (fun as U => as = as' ∧ Z.Warmed39 U.vm ∧ U.heap = h) (fun _ _ _ _ _ => True) (fun _ U o U' => ∃ v L, o = .returned v ∧ Q v U'.heap L ∧ FrameEnd U o U' L rm.cells rm.slots))
    (eT : T.heap = h) (E : Exa Z h a C) (argsL rest : List Value) (q W : Nat) (hd : decode c.code pc = .ok (.invokevirtual index, 3)) (hq : pc + 3 = q) (hsz : Ls.size = c.maxLocals) (has : (.ref a :: argsL).toArray = as') (hst : st = argsL.reverse ++ .ref a :: rest) (hlen : ∀ sig, parseMethodDescriptor y.desc = some sig → argsL.length = sig.parameters.length) (hW : 2 * 0 + (rest.map fun v => v.category).sum = W) (hr : (rm.frames + 1 ≤ R.frames ∧ W + (maxL + 11) + rm.locals ≤ R.locals) ∧ cells + rm.cells ≤ R.cells ∧ slots + rm.slots ≤ R.slots)
    (k : ∀ v T' L, Stand p l e R s m args below meth c T' (locs ++ L) (cells + rm.cells) (slots + rm.slots) → Q v T'.heap L → own_Fin p.tables e below Post (T'.setTop (mkF m q Ls (v.toList ++ rest)))) : own_Fin p.tables e below Post (T.setTop (mkF m pc Ls st)) := by
  subst hst hq has
  obtain ⟨cq, q1, q2⟩ := E.cell
  obtain ⟨v, vm1, ⟨T', L', k', n'⟩, -, X', ⟨Lc, hQ, l', y', z'⟩, t'⟩ := own_privG X hx (y := y) hown (mvT hZ w1) (mvT hZ w3) hsel (Cond.privateMethod_at (mvP hZ w6 (args := #[]))) (own_sigC (args := args) (mvT hZ wc)) hy (backOf (W := W) hM hZ wc wz hr.1.1 hr.1.2) (g := mkF m pc Ls (argsL.reverse ++ .ref a :: rest)) rfl hsz (Steps.refl _) (a := a) (by rw [eT]; exact q1) q2 (argsL := argsL) (rest := rest) hlen rfl (Nat.le_of_eq hW) hd (fun _ _ => ⟨rfl, eT, hr.2.1, hr.2.2⟩)
  dsimp only [Pt.U, Pt.locs, Pt.cells, Pt.slots] at X' l' y' z' t' hQ
  subst l' y' z'
  exact own_Fin.trans t' (k v T' Lc X' hQ)
theorem own_cY (X : Stand p l e R s m args below meth c T locs cells slots) (hx : p.tables.exec = Jvm.exec) (hZ : Z.Warmed39 s.vm) {own : String} {C D : String} {index : Nat} {y : MethodName} {bytes : ByteArray} {maxL : Nat} {ret : Option FieldType} {rm : Room} {Q : Option Value → Heap → List Loc → Prop} {as' : Array Value} {a : Addr} (hown : s.vm.findClass own = some m.cls) (w1 : (Cond.methodLink own index y).before a0 Z = true) (w3 : (Cond.instanceMethod y).before a0 Z = true) (hsel : (Cond.selects D y y).before args s = true) (w6 : (Cond.privateMethod y).before a0 Z = true) (hy : y.cls ≠ "java/lang/invoke/MethodHandle" ∧ y.cls ≠ "java/lang/invoke/VarHandle")
    (wc : (Cond.codeSync y bytes maxL ret).before a0 Z = true) (wz : (Cond.initialized y.cls).before a0 Z = true) (hM : MetFree l y (head1 [Cond.codeSync y bytes maxL ret, Cond.instanceMethod y] rm) (fun as U => as = as' ∧ Z.Warmed39 U.vm ∧ U.heap = h ∧ ∃ cell : Cell, h[a]? = some cell ∧ cell.enterable U.cur) (fun _ _ _ _ _ => True) (fun _ U o U' => ∃ v L, o = .returned v ∧ Q v U'.heap L ∧ FrameEnd U o U' L rm.cells rm.slots))
    (eT : T.heap = h) (E : Exa Z h a C) (N : Unt h a) (argsL rest : List Value) (q W : Nat) (hd : decode c.code pc = .ok (.invokevirtual index, 3)) (hq : pc + 3 = q) (hsz : Ls.size = c.maxLocals) (has : (.ref a :: argsL).toArray = as') (hst : st = argsL.reverse ++ .ref a :: rest) (hlen : ∀ sig, parseMethodDescriptor y.desc = some sig → argsL.length = sig.parameters.length) (hW : 2 * 0 + (rest.map fun v => v.category).sum = W) (hr : (rm.frames + 1 ≤ R.frames ∧ W + (maxL + 11) + rm.locals ≤ R.locals) ∧ cells + rm.cells ≤ R.cells ∧ slots + rm.slots ≤ R.slots)
    (k : ∀ v T' L, Stand p l e R s m args below meth c T' (locs ++ L) (cells + rm.cells) (slots + rm.slots) → Q v T'.heap L → own_Fin p.tables e below Post (T'.setTop (mkF m q Ls (v.toList ++ rest)))) : own_Fin p.tables e below Post (T.setTop (mkF m pc Ls st)) := by
  subst hst hq has
  obtain ⟨cq, q1, q2⟩ := E.cell
  obtain ⟨v, vm1, ⟨T', L', k', n'⟩, -, X', ⟨Lc, hQ, l', y', z'⟩, t'⟩ := own_privG X hx (y := y) hown (mvT hZ w1) (mvT hZ w3) hsel (Cond.privateMethod_at (mvP hZ w6 (args := #[]))) (own_sigS (args := args) (mvT hZ wc)) hy (own_backS (W := W) hM hZ wc w3 wz N hr.1.1 hr.1.2) (g := mkF m pc Ls (argsL.reverse ++ .ref a :: rest)) rfl hsz (Steps.refl _) (a := a) (by rw [eT]; exact q1) q2 (argsL := argsL) (rest := rest) hlen rfl (Nat.le_of_eq hW) hd (fun _ _ => ⟨rfl, eT, hr.2.1, hr.2.2⟩)
  dsimp only [Pt.U, Pt.locs, Pt.cells, Pt.slots] at X' l' y' z' t' hQ
  subst l' y' z'
  exact own_Fin.trans t' (k v T' Lc X' hQ)
theorem own_cU (X : Stand p l e R s m args below meth c T locs cells slots) (hx : p.tables.exec = Jvm.exec) (hZ : Z.Warmed39 s.vm) {own : String} {C : String} {index : Nat} {y : MethodName} {bytes : ByteArray} {maxL : Nat} {ret : Option FieldType} {rm : Room} {Q : Option Value → Heap → List Loc → Prop} {as' : Array Value} {a : Addr} (hown : s.vm.findClass own = some m.cls) (w1 : (Cond.methodLink own index y).before a0 Z = true) (w2 : (Cond.sameMethod y.cls y.cls y.name y.desc).before a0 Z = true) (w3 : (Cond.instanceMethod y).before a0 Z = true) (w4 : (Cond.superclass own y.cls).before a0 Z = true) (hn : y.name ≠ "<init>") 
    (wc : (Cond.code y bytes maxL ret).before a0 Z = true) (wz : (Cond.initialized y.cls).before a0 Z = true) (hM : MetFree l y (head1 [Cond.code y bytes maxL ret] rm) (fun as U => as = as' ∧ Z.Warmed39 U.vm ∧ U.heap = h) (fun _ _ _ _ _ => True) (fun _ U o U' => ∃ v L, o = .returned v ∧ Q v U'.heap L ∧ FrameEnd U o U' L rm.cells rm.slots))
    (eT : T.heap = h) (E : Exa Z h a C) (argsL rest : List Value) (q W : Nat) (hd : decode c.code pc = .ok (.invokespecial index, 3)) (hq : pc + 3 = q) (hsz : Ls.size = c.maxLocals) (has : (.ref a :: argsL).toArray = as') (hst : st = argsL.reverse ++ .ref a :: rest) (hlen : ∀ sig, parseMethodDescriptor y.desc = some sig → argsL.length = sig.parameters.length) (hW : 2 * 0 + (rest.map fun v => v.category).sum = W) (hr : (rm.frames + 1 ≤ R.frames ∧ W + (maxL + 11) + rm.locals ≤ R.locals) ∧ cells + rm.cells ≤ R.cells ∧ slots + rm.slots ≤ R.slots)
    (k : ∀ v T' L, Stand p l e R s m args below meth c T' (locs ++ L) (cells + rm.cells) (slots + rm.slots) → Q v T'.heap L → own_Fin p.tables e below Post (T'.setTop (mkF m q Ls (v.toList ++ rest)))) : own_Fin p.tables e below Post (T.setTop (mkF m pc Ls st)) := by
  subst hst hq has
  obtain ⟨v, vm1, ⟨T', L', k', n'⟩, -, X', ⟨Lc, hQ, l', y', z'⟩, t'⟩ := superBack X hx hZ (y := y) hown w1 w2 w3 w4 hn (backOf (W := W) hM hZ wc wz hr.1.1 hr.1.2) eT (Ins.self E) (g := mkF m pc Ls (argsL.reverse ++ .ref a :: rest)) rfl hsz wc (argsL := argsL) (rest := rest) hlen rfl (Nat.le_of_eq hW) hd (fun _ _ => ⟨rfl, eT, hr.2.1, hr.2.2⟩)
  dsimp only [Pt.U, Pt.locs, Pt.cells, Pt.slots] at X' l' y' z' t' hQ
  subst l' y' z'
  exact own_Fin.trans t' (k v T' Lc X' hQ)
theorem own_cR (X : Stand p l e R s m args below meth c T locs cells slots) (hx : p.tables.exec = Jvm.exec) (hZ : Z.Warmed39 s.vm) {own : String} {C : String} {index kk : Nat} {y : MethodName} {bytes : ByteArray} {maxL : Nat} {ret : Option FieldType} {rm : Room} {Q : Option Value → Heap → List Loc → Prop} {as' : Array Value} {a : Addr} (hown : s.vm.findClass own = some m.cls) (w1 : (Cond.methodRef own index y).before a0 Z = true) (w3 : (Cond.instanceMethod y).before a0 Z = true) (w6 : (Cond.privateMethod y).before a0 Z = true) (w7 : (Cond.instantiable y.cls kk).before a0 Z = true) (hy : y.cls ≠ "java/lang/invoke/MethodHandle" ∧ y.cls ≠ "java/lang/invoke/VarHandle")
    (wc : (Cond.code y bytes maxL ret).before a0 Z = true) (wz : (Cond.initialized y.cls).before a0 Z = true) (hM : MetFree l y (head1 [Cond.code y bytes maxL ret] rm) (fun as U => as = as' ∧ Z.Warmed39 U.vm ∧ U.heap = h) (fun _ _ _ _ _ => True) (fun _ U o U' => ∃ v L, o = .returned v ∧ Q v U'.heap L ∧ FrameEnd U o U' L rm.cells rm.slots))
    (eT : T.heap = h) (E : Exa Z h a C) (argsL rest : List Value) (q W : Nat) (hd : decode c.code pc = .ok (.invokevirtual index, 3)) (hq : pc + 3 = q) (hsz : Ls.size = c.maxLocals) (has : (.ref a :: argsL).toArray = as') (hst : st = argsL.reverse ++ .ref a :: rest) (hlen : ∀ sig, parseMethodDescriptor y.desc = some sig → argsL.length = sig.parameters.length) (hW : 2 * 0 + (rest.map fun v => v.category).sum = W) (hr : (rm.frames + 1 ≤ R.frames ∧ W + (maxL + 11) + rm.locals ≤ R.locals) ∧ cells + rm.cells ≤ R.cells ∧ slots + rm.slots ≤ R.slots)
    (k : ∀ v T' L, Stand p l e R s m args below meth c T' (locs ++ L) (cells + rm.cells) (slots + rm.slots) → Q v T'.heap L → own_Fin p.tables e below Post (T'.setTop (mkF m q Ls (v.toList ++ rest)))) : own_Fin p.tables e below Post (T.setTop (mkF m pc Ls st)) := by
  subst hst hq has
  obtain ⟨cq, q1, q2⟩ := E.cell
  obtain ⟨v, vm1, ⟨T', L', k', n'⟩, -, X', ⟨Lc, hQ, l', y', z'⟩, t'⟩ := own_privR X hx hZ (y := y) hown w1 w3 w6 w7 hy (backOf (W := W) hM hZ wc wz hr.1.1 hr.1.2) (g := mkF m pc Ls (argsL.reverse ++ .ref a :: rest)) rfl hsz (Steps.refl _) (a := a) (by rw [eT]; exact q1) q2 (argsL := argsL) (rest := rest) hlen rfl (Nat.le_of_eq hW) hd wc (fun _ _ => ⟨rfl, eT, hr.2.1, hr.2.2⟩)
  dsimp only [Pt.U, Pt.locs, Pt.cells, Pt.slots] at X' l' y' z' t' hQ
  subst l' y' z'
  exact own_Fin.trans t' (k v T' Lc X' hQ)
theorem own_cRi (X : Stand p l e R s m args below meth c T locs cells slots) (hx : p.tables.exec = Jvm.exec) (hZ : Z.Warmed39 s.vm) {own : String} {index : Nat} {y : MethodName} {bytes : ByteArray} {maxL : Nat} {ret : Option FieldType} {rm : Room} {Q : Option Value → Heap → List Loc → Prop} {as' : Array Value} {a : Addr} (hown : s.vm.findClass own = some m.cls) (hy1 : y.name = "<init>") (w1 : (Cond.methodRef own index y).before a0 Z = true) (w3 : (Cond.instanceMethod y).before a0 Z = true) (hy : y.cls ≠ "java/lang/invoke/MethodHandle" ∧ y.cls ≠ "java/lang/invoke/VarHandle")
    (wc : (Cond.code y bytes maxL ret).before a0 Z = true) (wz : (Cond.initialized y.cls).before a0 Z = true) (hM : MetFree l y (head1 [Cond.code y bytes maxL ret] rm) (fun as U => as = as' ∧ Z.Warmed39 U.vm ∧ U.heap = h) (fun _ _ _ _ _ => True) (fun _ U o U' => ∃ v L, o = .returned v ∧ Q v U'.heap L ∧ FrameEnd U o U' L rm.cells rm.slots))
    (eT : T.heap = h) (argsL rest : List Value) (q W : Nat) (hd : decode c.code pc = .ok (.invokespecial index, 3)) (hq : pc + 3 = q) (hsz : Ls.size = c.maxLocals) (has : (.ref a :: argsL).toArray = as') (hst : st = argsL.reverse ++ .ref a :: rest) (hlen : ∀ sig, parseMethodDescriptor y.desc = some sig → argsL.length = sig.parameters.length) (hW : 2 * 0 + (rest.map fun v => v.category).sum = W) (hr : (rm.frames + 1 ≤ R.frames ∧ W + (maxL + 11) + rm.locals ≤ R.locals) ∧ cells + rm.cells ≤ R.cells ∧ slots + rm.slots ≤ R.slots)
    (k : ∀ v T' L, Stand p l e R s m args below meth c T' (locs ++ L) (cells + rm.cells) (slots + rm.slots) → Q v T'.heap L → own_Fin p.tables e below Post (T'.setTop (mkF m q Ls (v.toList ++ rest)))) : own_Fin p.tables e below Post (T.setTop (mkF m pc Ls st)) := by
  subst hst hq has
  obtain ⟨v, vm1, ⟨T', L', k', n'⟩, -, X', ⟨Lc, hQ, l', y', z'⟩, t'⟩ := own_initR X hx hZ (y := y) hy1 hown w1 w3 hy (backOf (W := W) hM hZ wc wz hr.1.1 hr.1.2) (g := mkF m pc Ls (argsL.reverse ++ .ref a :: rest)) rfl hsz (Steps.refl _) (a := a) (argsL := argsL) (rest := rest) hlen rfl (Nat.le_of_eq hW) hd wc (fun _ _ => ⟨rfl, eT, hr.2.1, hr.2.2⟩)
  dsimp only [Pt.U, Pt.locs, Pt.cells, Pt.slots] at X' l' y' z' t' hQ
  subst l' y' z'
  exact own_Fin.trans t' (k v T' Lc X' hQ)
theorem own_nS {a x : Addr} {xs : List Addr} (q : @Ne Nat a x) (k : a ∉ xs) : a ∉ x :: xs := ninS q k
theorem own_ne {a b : Addr} (q : @Ne Nat a b) : a ≠ b := q
end Cps
end Jvm.RoadKit
namespace Jvm.RoadKit
open Sem ClassFile Op Lib Jvm.Stand Jvm.Free Jvm.LawKit
section Run
variable {p : Program} {l : Launch} {e : Env} {R : Room} {s : State} {m : MethodId} {args : Array Value} {below : List Frame} {meth : Method} {c : Code} {T : State} {locs : List Loc} {cells slots : Nat} {Post : Outcome → State → Prop} {pc q : Nat} {Ls Ls' : Array Slot} {st st' : List Value}
def own_x_iload (k : Nat) (Ls : Array Slot) (st : List Value) : Option (Array Slot × List Value) := match Ls[k]? with | some (.val (.int v)) => (some (Ls, .int v :: st)) | _ => none
theorem own_x_iload_s (X : Stand p l e R s m args below meth c T locs cells slots) (hx : p.tables.exec = Jvm.exec) {k : Nat} (hd : decode c.code pc = .ok (.iload k, 2)) (h : own_x_iload k Ls st = some (Ls', st')) (t : State) (r : Steps p.tables e below (T.setTop (mkF m (pc + 2) Ls' st')) t) : Steps p.tables e below (T.setTop (mkF m pc Ls st)) t := by
  unfold own_x_iload at h
  split at h
  · rename_i hv
    cases h
    exact XS.iload X.here hx rfl hd hv r
  · cases h
def own_x_iload_n (k : Fin 4) (Ls : Array Slot) (st : List Value) : Option (Array Slot × List Value) := match Ls[k.val]? with | some (.val (.int v)) => (some (Ls, .int v :: st)) | _ => none
theorem own_x_iload_n_s (X : Stand p l e R s m args below meth c T locs cells slots) (hx : p.tables.exec = Jvm.exec) {k : Fin 4} (hd : decode c.code pc = .ok (.iload_n k, 1)) (h : own_x_iload_n k Ls st = some (Ls', st')) (t : State) (r : Steps p.tables e below (T.setTop (mkF m (pc + 1) Ls' st')) t) : Steps p.tables e below (T.setTop (mkF m pc Ls st)) t := by
  unfold own_x_iload_n at h
  split at h
  · rename_i hv
    cases h
    exact XS.iloadN X.here hx rfl hd hv r
  · cases h
def own_x_lload (k : Nat) (Ls : Array Slot) (st : List Value) : Option (Array Slot × List Value) := match Ls[k]? with | some (.val (.long v)) => (some (Ls, .long v :: st)) | _ => none
theorem own_x_lload_s (X : Stand p l e R s m args below meth c T locs cells slots) (hx : p.tables.exec = Jvm.exec) {k : Nat} (hd : decode c.code pc = .ok (.lload k, 2)) (h : own_x_lload k Ls st = some (Ls', st')) (t : State) (r : Steps p.tables e below (T.setTop (mkF m (pc + 2) Ls' st')) t) : Steps p.tables e below (T.setTop (mkF m pc Ls st)) t := by
  unfold own_x_lload at h
  split at h
  · rename_i hv
    cases h
    exact XS.lload X.here hx rfl hd hv r
  · cases h
def own_x_lload_n (k : Fin 4) (Ls : Array Slot) (st : List Value) : Option (Array Slot × List Value) := match Ls[k.val]? with | some (.val (.long v)) => (some (Ls, .long v :: st)) | _ => none
theorem own_x_lload_n_s (X : Stand p l e R s m args below meth c T locs cells slots) (hx : p.tables.exec = Jvm.exec) {k : Fin 4} (hd : decode c.code pc = .ok (.lload_n k, 1)) (h : own_x_lload_n k Ls st = some (Ls', st')) (t : State) (r : Steps p.tables e below (T.setTop (mkF m (pc + 1) Ls' st')) t) : Steps p.tables e below (T.setTop (mkF m pc Ls st)) t := by
  unfold own_x_lload_n at h
  split at h
  · rename_i hv
    cases h
    exact XS.lloadN X.here hx rfl hd hv r
  · cases h
def own_x_aload (k : Nat) (Ls : Array Slot) (st : List Value) : Option (Array Slot × List Value) := match Ls[k]? with | some (.val (.ref v)) => (some (Ls, .ref v :: st)) | some (.val .null) => (some (Ls, .null :: st)) | _ => none
theorem own_x_aload_s (X : Stand p l e R s m args below meth c T locs cells slots) (hx : p.tables.exec = Jvm.exec) {k : Nat} (hd : decode c.code pc = .ok (.aload k, 2)) (h : own_x_aload k Ls st = some (Ls', st')) (t : State) (r : Steps p.tables e below (T.setTop (mkF m (pc + 2) Ls' st')) t) : Steps p.tables e below (T.setTop (mkF m pc Ls st)) t := by
  unfold own_x_aload at h
  split at h
  · rename_i hv
    cases h
    exact XS.aload X.here hx rfl hd hv rfl r
  · rename_i hv
    cases h
    exact XS.aload X.here hx rfl hd hv rfl r
  · cases h
def own_x_aload_n (k : Fin 4) (Ls : Array Slot) (st : List Value) : Option (Array Slot × List Value) := match Ls[k.val]? with | some (.val (.ref v)) => (some (Ls, .ref v :: st)) | some (.val .null) => (some (Ls, .null :: st)) | _ => none
theorem own_x_aload_n_s (X : Stand p l e R s m args below meth c T locs cells slots) (hx : p.tables.exec = Jvm.exec) {k : Fin 4} (hd : decode c.code pc = .ok (.aload_n k, 1)) (h : own_x_aload_n k Ls st = some (Ls', st')) (t : State) (r : Steps p.tables e below (T.setTop (mkF m (pc + 1) Ls' st')) t) : Steps p.tables e below (T.setTop (mkF m pc Ls st)) t := by
  unfold own_x_aload_n at h
  split at h
  · rename_i hv
    cases h
    exact XS.aloadN X.here hx rfl hd hv rfl r
  · rename_i hv
    cases h
    exact XS.aloadN X.here hx rfl hd hv rfl r
  · cases h
def own_x_istore (k : Nat) (Ls : Array Slot) (st : List Value) : Option (Array Slot × List Value) := match st with | .int v :: rest => (match storeLocals Ls k (.int v) with | some l' => some (l', rest) | none => none) | _ => none
theorem own_x_istore_s (X : Stand p l e R s m args below meth c T locs cells slots) (hx : p.tables.exec = Jvm.exec) {k : Nat} (hd : decode c.code pc = .ok (.istore k, 2)) (h : own_x_istore k Ls st = some (Ls', st')) (t : State) (r : Steps p.tables e below (T.setTop (mkF m (pc + 2) Ls' st')) t) : Steps p.tables e below (T.setTop (mkF m pc Ls st)) t := by
  unfold own_x_istore at h
  split at h
  · split at h
    · rename_i ho
      cases h
      exact XS.istore X.here hx rfl hd rfl ho r
    · cases h
  · cases h
def own_x_istore_n (k : Fin 4) (Ls : Array Slot) (st : List Value) : Option (Array Slot × List Value) := match st with | .int v :: rest => (match storeLocals Ls k.val (.int v) with | some l' => some (l', rest) | none => none) | _ => none
theorem own_x_istore_n_s (X : Stand p l e R s m args below meth c T locs cells slots) (hx : p.tables.exec = Jvm.exec) {k : Fin 4} (hd : decode c.code pc = .ok (.istore_n k, 1)) (h : own_x_istore_n k Ls st = some (Ls', st')) (t : State) (r : Steps p.tables e below (T.setTop (mkF m (pc + 1) Ls' st')) t) : Steps p.tables e below (T.setTop (mkF m pc Ls st)) t := by
  unfold own_x_istore_n at h
  split at h
  · split at h
    · rename_i ho
      cases h
      exact XS.istoreN X.here hx rfl hd rfl ho r
    · cases h
  · cases h
def own_x_lstore (k : Nat) (Ls : Array Slot) (st : List Value) : Option (Array Slot × List Value) := match st with | .long v :: rest => (match storeLocals Ls k (.long v) with | some l' => some (l', rest) | none => none) | _ => none
theorem own_x_lstore_s (X : Stand p l e R s m args below meth c T locs cells slots) (hx : p.tables.exec = Jvm.exec) {k : Nat} (hd : decode c.code pc = .ok (.lstore k, 2)) (h : own_x_lstore k Ls st = some (Ls', st')) (t : State) (r : Steps p.tables e below (T.setTop (mkF m (pc + 2) Ls' st')) t) : Steps p.tables e below (T.setTop (mkF m pc Ls st)) t := by
  unfold own_x_lstore at h
  split at h
  · split at h
    · rename_i ho
      cases h
      exact XS.lstore X.here hx rfl hd rfl ho r
    · cases h
  · cases h
def own_x_lstore_n (k : Fin 4) (Ls : Array Slot) (st : List Value) : Option (Array Slot × List Value) := match st with | .long v :: rest => (match storeLocals Ls k.val (.long v) with | some l' => some (l', rest) | none => none) | _ => none
theorem own_x_lstore_n_s (X : Stand p l e R s m args below meth c T locs cells slots) (hx : p.tables.exec = Jvm.exec) {k : Fin 4} (hd : decode c.code pc = .ok (.lstore_n k, 1)) (h : own_x_lstore_n k Ls st = some (Ls', st')) (t : State) (r : Steps p.tables e below (T.setTop (mkF m (pc + 1) Ls' st')) t) : Steps p.tables e below (T.setTop (mkF m pc Ls st)) t := by
  unfold own_x_lstore_n at h
  split at h
  · split at h
    · rename_i ho
      cases h
      exact XS.lstoreN X.here hx rfl hd rfl ho r
    · cases h
  · cases h
def own_x_astore (k : Nat) (Ls : Array Slot) (st : List Value) : Option (Array Slot × List Value) := match st with | .ref v :: rest => (match storeLocals Ls k (.ref v) with | some l' => some (l', rest) | none => none) | .null :: rest => (match storeLocals Ls k (.null) with | some l' => some (l', rest) | none => none) | _ => none
theorem own_x_astore_s (X : Stand p l e R s m args below meth c T locs cells slots) (hx : p.tables.exec = Jvm.exec) {k : Nat} (hd : decode c.code pc = .ok (.astore k, 2)) (h : own_x_astore k Ls st = some (Ls', st')) (t : State) (r : Steps p.tables e below (T.setTop (mkF m (pc + 2) Ls' st')) t) : Steps p.tables e below (T.setTop (mkF m pc Ls st)) t := by
  unfold own_x_astore at h
  split at h
  · split at h
    · rename_i ho
      cases h
      exact XS.astore X.here hx rfl hd rfl rfl ho r
    · cases h
  · split at h
    · rename_i ho
      cases h
      exact XS.astore X.here hx rfl hd rfl rfl ho r
    · cases h
  · cases h
def own_x_astore_n (k : Fin 4) (Ls : Array Slot) (st : List Value) : Option (Array Slot × List Value) := match st with | .ref v :: rest => (match storeLocals Ls k.val (.ref v) with | some l' => some (l', rest) | none => none) | .null :: rest => (match storeLocals Ls k.val (.null) with | some l' => some (l', rest) | none => none) | _ => none
theorem own_x_astore_n_s (X : Stand p l e R s m args below meth c T locs cells slots) (hx : p.tables.exec = Jvm.exec) {k : Fin 4} (hd : decode c.code pc = .ok (.astore_n k, 1)) (h : own_x_astore_n k Ls st = some (Ls', st')) (t : State) (r : Steps p.tables e below (T.setTop (mkF m (pc + 1) Ls' st')) t) : Steps p.tables e below (T.setTop (mkF m pc Ls st)) t := by
  unfold own_x_astore_n at h
  split at h
  · split at h
    · rename_i ho
      cases h
      exact XS.astoreN X.here hx rfl hd rfl rfl ho r
    · cases h
  · split at h
    · rename_i ho
      cases h
      exact XS.astoreN X.here hx rfl hd rfl rfl ho r
    · cases h
  · cases h
def own_x_iconst (i : Int) (Ls : Array Slot) (st : List Value) : Option (Array Slot × List Value) := some (Ls, .int (Int32.ofInt i) :: st)
theorem own_x_iconst_s (X : Stand p l e R s m args below meth c T locs cells slots) (hx : p.tables.exec = Jvm.exec) {i : Int} (hd : decode c.code pc = .ok (.iconst i, 1)) (h : own_x_iconst i Ls st = some (Ls', st')) (t : State) (r : Steps p.tables e below (T.setTop (mkF m (pc + 1) Ls' st')) t) : Steps p.tables e below (T.setTop (mkF m pc Ls st)) t := by
  unfold own_x_iconst at h
  cases h
  exact XS.iconst X.here hx rfl hd r
def own_x_bipush (i : Int) (Ls : Array Slot) (st : List Value) : Option (Array Slot × List Value) := some (Ls, .int (Int8.ofInt i).toInt32 :: st)
theorem own_x_bipush_s (X : Stand p l e R s m args below meth c T locs cells slots) (hx : p.tables.exec = Jvm.exec) {i : Int} (hd : decode c.code pc = .ok (.bipush i, 2)) (h : own_x_bipush i Ls st = some (Ls', st')) (t : State) (r : Steps p.tables e below (T.setTop (mkF m (pc + 2) Ls' st')) t) : Steps p.tables e below (T.setTop (mkF m pc Ls st)) t := by
  unfold own_x_bipush at h
  cases h
  exact XS.bipush X.here hx rfl hd r
def own_x_sipush (i : Int) (Ls : Array Slot) (st : List Value) : Option (Array Slot × List Value) := some (Ls, .int (Int16.ofInt i).toInt32 :: st)
theorem own_x_sipush_s (X : Stand p l e R s m args below meth c T locs cells slots) (hx : p.tables.exec = Jvm.exec) {i : Int} (hd : decode c.code pc = .ok (.sipush i, 3)) (h : own_x_sipush i Ls st = some (Ls', st')) (t : State) (r : Steps p.tables e below (T.setTop (mkF m (pc + 3) Ls' st')) t) : Steps p.tables e below (T.setTop (mkF m pc Ls st)) t := by
  unfold own_x_sipush at h
  cases h
  exact XS.sipush X.here hx rfl hd r
def own_x_aconst_null (Ls : Array Slot) (st : List Value) : Option (Array Slot × List Value) := some (Ls, .null :: st)
theorem own_x_aconst_null_s (X : Stand p l e R s m args below meth c T locs cells slots) (hx : p.tables.exec = Jvm.exec) (hd : decode c.code pc = .ok (.aconst_null, 1)) (h : own_x_aconst_null Ls st = some (Ls', st')) (t : State) (r : Steps p.tables e below (T.setTop (mkF m (pc + 1) Ls' st')) t) : Steps p.tables e below (T.setTop (mkF m pc Ls st)) t := by
  unfold own_x_aconst_null at h
  cases h
  exact XS.aconstNull X.here hx rfl hd r
def own_x_iadd (Ls : Array Slot) (st : List Value) : Option (Array Slot × List Value) := match st with | .int y :: .int x :: rest => (some (Ls, .int (x + y) :: rest)) | _ => none
theorem own_x_iadd_s (X : Stand p l e R s m args below meth c T locs cells slots) (hx : p.tables.exec = Jvm.exec) (hd : decode c.code pc = .ok (.iadd, 1)) (h : own_x_iadd Ls st = some (Ls', st')) (t : State) (r : Steps p.tables e below (T.setTop (mkF m (pc + 1) Ls' st')) t) : Steps p.tables e below (T.setTop (mkF m pc Ls st)) t := by
  unfold own_x_iadd at h
  split at h
  · cases h
    exact XS.iadd X.here hx rfl hd rfl r
  · cases h
def own_x_isub (Ls : Array Slot) (st : List Value) : Option (Array Slot × List Value) := match st with | .int y :: .int x :: rest => (some (Ls, .int (x - y) :: rest)) | _ => none
theorem own_x_isub_s (X : Stand p l e R s m args below meth c T locs cells slots) (hx : p.tables.exec = Jvm.exec) (hd : decode c.code pc = .ok (.isub, 1)) (h : own_x_isub Ls st = some (Ls', st')) (t : State) (r : Steps p.tables e below (T.setTop (mkF m (pc + 1) Ls' st')) t) : Steps p.tables e below (T.setTop (mkF m pc Ls st)) t := by
  unfold own_x_isub at h
  split at h
  · cases h
    exact XS.isub X.here hx rfl hd rfl r
  · cases h
def own_x_imul (Ls : Array Slot) (st : List Value) : Option (Array Slot × List Value) := match st with | .int y :: .int x :: rest => (some (Ls, .int (x * y) :: rest)) | _ => none
theorem own_x_imul_s (X : Stand p l e R s m args below meth c T locs cells slots) (hx : p.tables.exec = Jvm.exec) (hd : decode c.code pc = .ok (.imul, 1)) (h : own_x_imul Ls st = some (Ls', st')) (t : State) (r : Steps p.tables e below (T.setTop (mkF m (pc + 1) Ls' st')) t) : Steps p.tables e below (T.setTop (mkF m pc Ls st)) t := by
  unfold own_x_imul at h
  split at h
  · cases h
    exact XS.imul X.here hx rfl hd rfl r
  · cases h
def own_x_iand (Ls : Array Slot) (st : List Value) : Option (Array Slot × List Value) := match st with | .int y :: .int x :: rest => (some (Ls, .int (x &&& y) :: rest)) | _ => none
theorem own_x_iand_s (X : Stand p l e R s m args below meth c T locs cells slots) (hx : p.tables.exec = Jvm.exec) (hd : decode c.code pc = .ok (.iand, 1)) (h : own_x_iand Ls st = some (Ls', st')) (t : State) (r : Steps p.tables e below (T.setTop (mkF m (pc + 1) Ls' st')) t) : Steps p.tables e below (T.setTop (mkF m pc Ls st)) t := by
  unfold own_x_iand at h
  split at h
  · cases h
    exact XS.iand X.here hx rfl hd rfl r
  · cases h
def own_x_ior (Ls : Array Slot) (st : List Value) : Option (Array Slot × List Value) := match st with | .int y :: .int x :: rest => (some (Ls, .int (x ||| y) :: rest)) | _ => none
theorem own_x_ior_s (X : Stand p l e R s m args below meth c T locs cells slots) (hx : p.tables.exec = Jvm.exec) (hd : decode c.code pc = .ok (.ior, 1)) (h : own_x_ior Ls st = some (Ls', st')) (t : State) (r : Steps p.tables e below (T.setTop (mkF m (pc + 1) Ls' st')) t) : Steps p.tables e below (T.setTop (mkF m pc Ls st)) t := by
  unfold own_x_ior at h
  split at h
  · cases h
    exact XS.ior X.here hx rfl hd rfl r
  · cases h
def own_x_ixor (Ls : Array Slot) (st : List Value) : Option (Array Slot × List Value) := match st with | .int y :: .int x :: rest => (some (Ls, .int (x ^^^ y) :: rest)) | _ => none
theorem own_x_ixor_s (X : Stand p l e R s m args below meth c T locs cells slots) (hx : p.tables.exec = Jvm.exec) (hd : decode c.code pc = .ok (.ixor, 1)) (h : own_x_ixor Ls st = some (Ls', st')) (t : State) (r : Steps p.tables e below (T.setTop (mkF m (pc + 1) Ls' st')) t) : Steps p.tables e below (T.setTop (mkF m pc Ls st)) t := by
  unfold own_x_ixor at h
  split at h
  · cases h
    exact XS.ixor X.here hx rfl hd rfl r
  · cases h
def own_x_ishl (Ls : Array Slot) (st : List Value) : Option (Array Slot × List Value) := match st with | .int y :: .int x :: rest => (some (Ls, .int (x <<< (y &&& 31)) :: rest)) | _ => none
theorem own_x_ishl_s (X : Stand p l e R s m args below meth c T locs cells slots) (hx : p.tables.exec = Jvm.exec) (hd : decode c.code pc = .ok (.ishl, 1)) (h : own_x_ishl Ls st = some (Ls', st')) (t : State) (r : Steps p.tables e below (T.setTop (mkF m (pc + 1) Ls' st')) t) : Steps p.tables e below (T.setTop (mkF m pc Ls st)) t := by
  unfold own_x_ishl at h
  split at h
  · cases h
    exact XS.ishl X.here hx rfl hd rfl r
  · cases h
def own_x_ishr (Ls : Array Slot) (st : List Value) : Option (Array Slot × List Value) := match st with | .int y :: .int x :: rest => (some (Ls, .int (x >>> (y &&& 31)) :: rest)) | _ => none
theorem own_x_ishr_s (X : Stand p l e R s m args below meth c T locs cells slots) (hx : p.tables.exec = Jvm.exec) (hd : decode c.code pc = .ok (.ishr, 1)) (h : own_x_ishr Ls st = some (Ls', st')) (t : State) (r : Steps p.tables e below (T.setTop (mkF m (pc + 1) Ls' st')) t) : Steps p.tables e below (T.setTop (mkF m pc Ls st)) t := by
  unfold own_x_ishr at h
  split at h
  · cases h
    exact XS.ishr X.here hx rfl hd rfl r
  · cases h
def own_x_iushr (Ls : Array Slot) (st : List Value) : Option (Array Slot × List Value) := match st with | .int y :: .int x :: rest => (some (Ls, .int ((x.toUInt32 >>> (y &&& 31).toUInt32).toInt32) :: rest)) | _ => none
theorem own_x_iushr_s (X : Stand p l e R s m args below meth c T locs cells slots) (hx : p.tables.exec = Jvm.exec) (hd : decode c.code pc = .ok (.iushr, 1)) (h : own_x_iushr Ls st = some (Ls', st')) (t : State) (r : Steps p.tables e below (T.setTop (mkF m (pc + 1) Ls' st')) t) : Steps p.tables e below (T.setTop (mkF m pc Ls st)) t := by
  unfold own_x_iushr at h
  split at h
  · cases h
    exact XS.iushr X.here hx rfl hd rfl r
  · cases h
def own_x_ladd (Ls : Array Slot) (st : List Value) : Option (Array Slot × List Value) := match st with | .long y :: .long x :: rest => (some (Ls, .long (x + y) :: rest)) | _ => none
theorem own_x_ladd_s (X : Stand p l e R s m args below meth c T locs cells slots) (hx : p.tables.exec = Jvm.exec) (hd : decode c.code pc = .ok (.ladd, 1)) (h : own_x_ladd Ls st = some (Ls', st')) (t : State) (r : Steps p.tables e below (T.setTop (mkF m (pc + 1) Ls' st')) t) : Steps p.tables e below (T.setTop (mkF m pc Ls st)) t := by
  unfold own_x_ladd at h
  split at h
  · cases h
    exact XS.ladd X.here hx rfl hd rfl r
  · cases h
def own_x_lsub (Ls : Array Slot) (st : List Value) : Option (Array Slot × List Value) := match st with | .long y :: .long x :: rest => (some (Ls, .long (x - y) :: rest)) | _ => none
theorem own_x_lsub_s (X : Stand p l e R s m args below meth c T locs cells slots) (hx : p.tables.exec = Jvm.exec) (hd : decode c.code pc = .ok (.lsub, 1)) (h : own_x_lsub Ls st = some (Ls', st')) (t : State) (r : Steps p.tables e below (T.setTop (mkF m (pc + 1) Ls' st')) t) : Steps p.tables e below (T.setTop (mkF m pc Ls st)) t := by
  unfold own_x_lsub at h
  split at h
  · cases h
    exact XS.lsub X.here hx rfl hd rfl r
  · cases h
def own_x_land (Ls : Array Slot) (st : List Value) : Option (Array Slot × List Value) := match st with | .long y :: .long x :: rest => (some (Ls, .long (x &&& y) :: rest)) | _ => none
theorem own_x_land_s (X : Stand p l e R s m args below meth c T locs cells slots) (hx : p.tables.exec = Jvm.exec) (hd : decode c.code pc = .ok (.land, 1)) (h : own_x_land Ls st = some (Ls', st')) (t : State) (r : Steps p.tables e below (T.setTop (mkF m (pc + 1) Ls' st')) t) : Steps p.tables e below (T.setTop (mkF m pc Ls st)) t := by
  unfold own_x_land at h
  split at h
  · cases h
    exact XS.land X.here hx rfl hd rfl r
  · cases h
def own_x_lxor (Ls : Array Slot) (st : List Value) : Option (Array Slot × List Value) := match st with | .long y :: .long x :: rest => (some (Ls, .long (x ^^^ y) :: rest)) | _ => none
theorem own_x_lxor_s (X : Stand p l e R s m args below meth c T locs cells slots) (hx : p.tables.exec = Jvm.exec) (hd : decode c.code pc = .ok (.lxor, 1)) (h : own_x_lxor Ls st = some (Ls', st')) (t : State) (r : Steps p.tables e below (T.setTop (mkF m (pc + 1) Ls' st')) t) : Steps p.tables e below (T.setTop (mkF m pc Ls st)) t := by
  unfold own_x_lxor at h
  split at h
  · cases h
    exact XS.lxor X.here hx rfl hd rfl r
  · cases h
def own_x_i2b (Ls : Array Slot) (st : List Value) : Option (Array Slot × List Value) := match st with | .int x :: rest => (some (Ls, .int x.toInt8.toInt32 :: rest)) | _ => none
theorem own_x_i2b_s (X : Stand p l e R s m args below meth c T locs cells slots) (hx : p.tables.exec = Jvm.exec) (hd : decode c.code pc = .ok (.i2b, 1)) (h : own_x_i2b Ls st = some (Ls', st')) (t : State) (r : Steps p.tables e below (T.setTop (mkF m (pc + 1) Ls' st')) t) : Steps p.tables e below (T.setTop (mkF m pc Ls st)) t := by
  unfold own_x_i2b at h
  split at h
  · cases h
    exact XS.i2b X.here hx rfl hd rfl r
  · cases h
def own_x_i2c (Ls : Array Slot) (st : List Value) : Option (Array Slot × List Value) := match st with | .int x :: rest => (some (Ls, .int x.toUInt32.toUInt16.toUInt32.toInt32 :: rest)) | _ => none
theorem own_x_i2c_s (X : Stand p l e R s m args below meth c T locs cells slots) (hx : p.tables.exec = Jvm.exec) (hd : decode c.code pc = .ok (.i2c, 1)) (h : own_x_i2c Ls st = some (Ls', st')) (t : State) (r : Steps p.tables e below (T.setTop (mkF m (pc + 1) Ls' st')) t) : Steps p.tables e below (T.setTop (mkF m pc Ls st)) t := by
  unfold own_x_i2c at h
  split at h
  · cases h
    exact XS.i2c X.here hx rfl hd rfl r
  · cases h
def own_x_i2l (Ls : Array Slot) (st : List Value) : Option (Array Slot × List Value) := match st with | .int x :: rest => (some (Ls, .long x.toInt64 :: rest)) | _ => none
theorem own_x_i2l_s (X : Stand p l e R s m args below meth c T locs cells slots) (hx : p.tables.exec = Jvm.exec) (hd : decode c.code pc = .ok (.i2l, 1)) (h : own_x_i2l Ls st = some (Ls', st')) (t : State) (r : Steps p.tables e below (T.setTop (mkF m (pc + 1) Ls' st')) t) : Steps p.tables e below (T.setTop (mkF m pc Ls st)) t := by
  unfold own_x_i2l at h
  split at h
  · cases h
    exact XS.i2l X.here hx rfl hd rfl r
  · cases h
def own_x_l2i (Ls : Array Slot) (st : List Value) : Option (Array Slot × List Value) := match st with | .long x :: rest => (some (Ls, .int x.toInt32 :: rest)) | _ => none
theorem own_x_l2i_s (X : Stand p l e R s m args below meth c T locs cells slots) (hx : p.tables.exec = Jvm.exec) (hd : decode c.code pc = .ok (.l2i, 1)) (h : own_x_l2i Ls st = some (Ls', st')) (t : State) (r : Steps p.tables e below (T.setTop (mkF m (pc + 1) Ls' st')) t) : Steps p.tables e below (T.setTop (mkF m pc Ls st)) t := by
  unfold own_x_l2i at h
  split at h
  · cases h
    exact XS.l2i X.here hx rfl hd rfl r
  · cases h
def own_x_ineg (Ls : Array Slot) (st : List Value) : Option (Array Slot × List Value) := match st with | .int x :: rest => (some (Ls, .int (-x) :: rest)) | _ => none
theorem own_x_ineg_s (X : Stand p l e R s m args below meth c T locs cells slots) (hx : p.tables.exec = Jvm.exec) (hd : decode c.code pc = .ok (.ineg, 1)) (h : own_x_ineg Ls st = some (Ls', st')) (t : State) (r : Steps p.tables e below (T.setTop (mkF m (pc + 1) Ls' st')) t) : Steps p.tables e below (T.setTop (mkF m pc Ls st)) t := by
  unfold own_x_ineg at h
  split at h
  · cases h
    exact XS.ineg X.here hx rfl hd rfl r
  · cases h
def own_x_lneg (Ls : Array Slot) (st : List Value) : Option (Array Slot × List Value) := match st with | .long x :: rest => (some (Ls, .long (-x) :: rest)) | _ => none
theorem own_x_lneg_s (X : Stand p l e R s m args below meth c T locs cells slots) (hx : p.tables.exec = Jvm.exec) (hd : decode c.code pc = .ok (.lneg, 1)) (h : own_x_lneg Ls st = some (Ls', st')) (t : State) (r : Steps p.tables e below (T.setTop (mkF m (pc + 1) Ls' st')) t) : Steps p.tables e below (T.setTop (mkF m pc Ls st)) t := by
  unfold own_x_lneg at h
  split at h
  · cases h
    exact XS.lneg X.here hx rfl hd rfl r
  · cases h
def own_x_dup (Ls : Array Slot) (st : List Value) : Option (Array Slot × List Value) := match st with | .ref v :: rest => (some (Ls, .ref v :: .ref v :: rest)) | .null :: rest => (some (Ls, .null :: .null :: rest)) | .int v :: rest => (some (Ls, .int v :: .int v :: rest)) | _ => none
theorem own_x_dup_s (X : Stand p l e R s m args below meth c T locs cells slots) (hx : p.tables.exec = Jvm.exec) (hd : decode c.code pc = .ok (.dup, 1)) (h : own_x_dup Ls st = some (Ls', st')) (t : State) (r : Steps p.tables e below (T.setTop (mkF m (pc + 1) Ls' st')) t) : Steps p.tables e below (T.setTop (mkF m pc Ls st)) t := by
  unfold own_x_dup at h
  split at h
  · cases h
    exact XS.dup X.here hx rfl hd rfl rfl r
  · cases h
    exact XS.dup X.here hx rfl hd rfl rfl r
  · cases h
    exact XS.dup X.here hx rfl hd rfl rfl r
  · cases h
def own_x_pop (Ls : Array Slot) (st : List Value) : Option (Array Slot × List Value) := match st with | .ref v :: rest => (some (Ls, rest)) | .null :: rest => (some (Ls, rest)) | .int v :: rest => (some (Ls, rest)) | _ => none
theorem own_x_pop_s (X : Stand p l e R s m args below meth c T locs cells slots) (hx : p.tables.exec = Jvm.exec) (hd : decode c.code pc = .ok (.pop, 1)) (h : own_x_pop Ls st = some (Ls', st')) (t : State) (r : Steps p.tables e below (T.setTop (mkF m (pc + 1) Ls' st')) t) : Steps p.tables e below (T.setTop (mkF m pc Ls st)) t := by
  unfold own_x_pop at h
  split at h
  · cases h
    exact XS.pop X.here hx rfl hd rfl rfl r
  · cases h
    exact XS.pop X.here hx rfl hd rfl rfl r
  · cases h
    exact XS.pop X.here hx rfl hd rfl rfl r
  · cases h
def own_x_dup_x1 (Ls : Array Slot) (st : List Value) : Option (Array Slot × List Value) := match st with | .ref v :: .ref y :: rest => (some (Ls, .ref v :: .ref y :: .ref v :: rest)) | .null :: .ref y :: rest => (some (Ls, .null :: .ref y :: .null :: rest)) | .int v :: .ref y :: rest => (some (Ls, .int v :: .ref y :: .int v :: rest)) | _ => none
theorem own_x_dup_x1_s (X : Stand p l e R s m args below meth c T locs cells slots) (hx : p.tables.exec = Jvm.exec) (hd : decode c.code pc = .ok (.dup_x1, 1)) (h : own_x_dup_x1 Ls st = some (Ls', st')) (t : State) (r : Steps p.tables e below (T.setTop (mkF m (pc + 1) Ls' st')) t) : Steps p.tables e below (T.setTop (mkF m pc Ls st)) t := by
  unfold own_x_dup_x1 at h
  split at h
  · cases h
    exact XS.dupX1 X.here hx rfl hd rfl rfl rfl r
  · cases h
    exact XS.dupX1 X.here hx rfl hd rfl rfl rfl r
  · cases h
    exact XS.dupX1 X.here hx rfl hd rfl rfl rfl r
  · cases h
def own_x_iinc (k : Nat) (i : Int) (Ls : Array Slot) (st : List Value) : Option (Array Slot × List Value) := match Ls[k]? with | some (.val (.int x)) => (match storeLocals Ls k (.int (x + Int32.ofInt i)) with | some l' => some (l', st) | none => none) | _ => none
theorem own_x_iinc_s (X : Stand p l e R s m args below meth c T locs cells slots) (hx : p.tables.exec = Jvm.exec) {k : Nat} {i : Int} (hd : decode c.code pc = .ok (.iinc k i, 3)) (h : own_x_iinc k i Ls st = some (Ls', st')) (t : State) (r : Steps p.tables e below (T.setTop (mkF m (pc + 3) Ls' st')) t) : Steps p.tables e below (T.setTop (mkF m pc Ls st)) t := by
  unfold own_x_iinc at h
  split at h
  · rename_i hv
    split at h
    · rename_i ho
      cases h
      exact XS.iinc X.here hx rfl hd hv ho r
    · cases h
  · cases h
def own_ex (i : Instr) (n : Nat) (Ls : Array Slot) (st : List Value) : Option (Array Slot × List Value) := match i, n with | .iload k, 2 => own_x_iload k Ls st | .iload_n k, 1 => own_x_iload_n k Ls st | .lload k, 2 => own_x_lload k Ls st | .lload_n k, 1 => own_x_lload_n k Ls st | .aload k, 2 => own_x_aload k Ls st | .aload_n k, 1 => own_x_aload_n k Ls st | .istore k, 2 => own_x_istore k Ls st | .istore_n k, 1 => own_x_istore_n k Ls st | .lstore k, 2 => own_x_lstore k Ls st | .lstore_n k, 1 => own_x_lstore_n k Ls st | .astore k, 2 => own_x_astore k Ls st | .astore_n k, 1 => own_x_astore_n k Ls st | .iconst i, 1 => own_x_iconst i Ls st | .bipush i, 2 => own_x_bipush i Ls st | .sipush i, 3 => own_x_sipush i Ls st | .aconst_null, 1 => own_x_aconst_null Ls st | .iadd, 1 => own_x_iadd Ls st | .isub, 1 => own_x_isub Ls st | .imul, 1 => own_x_imul Ls st | .iand, 1 => own_x_iand Ls st | .ior, 1 => own_x_ior Ls st | .ixor, 1 => own_x_ixor Ls st | .ishl, 1 => own_x_ishl Ls st | .ishr, 1 => own_x_ishr Ls st | .iushr, 1 => own_x_iushr Ls st | .ladd, 1 => own_x_ladd Ls st | .lsub, 1 => own_x_lsub Ls st | .land, 1 => own_x_land Ls st | .lxor, 1 => own_x_lxor Ls st | .i2b, 1 => own_x_i2b Ls st | .i2c, 1 => own_x_i2c Ls st | .i2l, 1 => own_x_i2l Ls st | .l2i, 1 => own_x_l2i Ls st | .ineg, 1 => own_x_ineg Ls st | .lneg, 1 => own_x_lneg Ls st | .dup, 1 => own_x_dup Ls st | .pop, 1 => own_x_pop Ls st | .dup_x1, 1 => own_x_dup_x1 Ls st | .iinc k i, 3 => own_x_iinc k i Ls st | _, _ => none
theorem own_ex_s (X : Stand p l e R s m args below meth c T locs cells slots) (hx : p.tables.exec = Jvm.exec) {i : Instr} {n : Nat} (hd : decode c.code pc = .ok (i, n)) (h : own_ex i n Ls st = some (Ls', st')) (t : State) (r : Steps p.tables e below (T.setTop (mkF m (pc + n) Ls' st')) t) : Steps p.tables e below (T.setTop (mkF m pc Ls st)) t := by
  unfold own_ex at h
  split at h
  · exact own_x_iload_s X hx hd h t r
  · exact own_x_iload_n_s X hx hd h t r
  · exact own_x_lload_s X hx hd h t r
  · exact own_x_lload_n_s X hx hd h t r
  · exact own_x_aload_s X hx hd h t r
  · exact own_x_aload_n_s X hx hd h t r
  · exact own_x_istore_s X hx hd h t r
  · exact own_x_istore_n_s X hx hd h t r
  · exact own_x_lstore_s X hx hd h t r
  · exact own_x_lstore_n_s X hx hd h t r
  · exact own_x_astore_s X hx hd h t r
  · exact own_x_astore_n_s X hx hd h t r
  · exact own_x_iconst_s X hx hd h t r
  · exact own_x_bipush_s X hx hd h t r
  · exact own_x_sipush_s X hx hd h t r
  · exact own_x_aconst_null_s X hx hd h t r
  · exact own_x_iadd_s X hx hd h t r
  · exact own_x_isub_s X hx hd h t r
  · exact own_x_imul_s X hx hd h t r
  · exact own_x_iand_s X hx hd h t r
  · exact own_x_ior_s X hx hd h t r
  · exact own_x_ixor_s X hx hd h t r
  · exact own_x_ishl_s X hx hd h t r
  · exact own_x_ishr_s X hx hd h t r
  · exact own_x_iushr_s X hx hd h t r
  · exact own_x_ladd_s X hx hd h t r
  · exact own_x_lsub_s X hx hd h t r
  · exact own_x_land_s X hx hd h t r
  · exact own_x_lxor_s X hx hd h t r
  · exact own_x_i2b_s X hx hd h t r
  · exact own_x_i2c_s X hx hd h t r
  · exact own_x_i2l_s X hx hd h t r
  · exact own_x_l2i_s X hx hd h t r
  · exact own_x_ineg_s X hx hd h t r
  · exact own_x_lneg_s X hx hd h t r
  · exact own_x_dup_s X hx hd h t r
  · exact own_x_pop_s X hx hd h t r
  · exact own_x_dup_x1_s X hx hd h t r
  · exact own_x_iinc_s X hx hd h t r
  · cases h
def own_exs : List (Instr × Nat) → Array Slot → List Value → Option (Array Slot × List Value)
  | [], Ls, st => some (Ls, st)
  | (i, n) :: is, Ls, st => match own_ex i n Ls st with | some (Ls1, st1) => own_exs is Ls1 st1 | none => none
def own_dec (b : ByteArray) : Nat → List (Instr × Nat) → Bool
  | _, [] => true
  | pc, (i, n) :: is => decide (decode b pc = .ok (i, n)) && own_dec b (pc + n) is
def own_end : Nat → List (Instr × Nat) → Nat
  | pc, [] => pc
  | pc, (_, n) :: is => own_end (pc + n) is
theorem own_run (X : Stand p l e R s m args below meth c T locs cells slots) (hx : p.tables.exec = Jvm.exec) {b : ByteArray} (hb : c.code = b) : ∀ (is : List (Instr × Nat)) {pc : Nat} {Ls : Array Slot} {st : List Value}, own_dec b pc is = true → own_exs is Ls st = some (Ls', st') → ∀ t, Steps p.tables e below (T.setTop (mkF m (own_end pc is) Ls' st')) t → Steps p.tables e below (T.setTop (mkF m pc Ls st)) t
  | [], pc, Ls, st, _, h, t, r => by cases h; exact r
  | (i, n) :: is, pc, Ls, st, hd, h, t, r => by
    unfold own_dec at hd
    unfold own_exs at h
    obtain ⟨h1, h2⟩ := Bool.and_eq_true_iff.mp hd
    split at h
    · rename_i Ls1 st1 h3
      exact own_ex_s X hx (by rw [hb]; exact of_decide_eq_true h1) h3 t (own_run X hx hb is h2 h t r)
    · cases h
theorem own_ru (q : Nat) (st' : List Value) (X : Stand p l e R s m args below meth c T locs cells slots) (hx : p.tables.exec = Jvm.exec) {b : ByteArray} (hb : c.code = b) {is : List (Instr × Nat)} (hd : own_dec b pc is = true) (h : own_exs is Ls st = some (Ls, st')) (hq : own_end pc is = q) (k : own_Fin p.tables e below Post (T.setTop (mkF m q Ls st'))) : own_Fin p.tables e below Post (T.setTop (mkF m pc Ls st)) := by
  subst hq
  exact own_Fin.step (own_run X hx hb is hd h) k
theorem own_rl (q : Nat) (Ls' : Array Slot) (st' : List Value) (X : Stand p l e R s m args below meth c T locs cells slots) (hx : p.tables.exec = Jvm.exec) {b : ByteArray} (hb : c.code = b) {is : List (Instr × Nat)} (hd : own_dec b pc is = true) (h : own_exs is Ls st = some (Ls', st')) (hq : own_end pc is = q) (k : own_Fin p.tables e below Post (T.setTop (mkF m q Ls' st'))) : own_Fin p.tables e below Post (T.setTop (mkF m pc Ls st)) := by
  subst hq
  exact own_Fin.step (own_run X hx hb is hd h) k
end Run
end Jvm.RoadKit
namespace Jvm.RoadKit
open Sem ClassFile Op Lib Jvm.Stand Jvm.Free Jvm.LawKit
abbrev own_rm (f c s l : Nat) : Room := { frames := f, cells := c, slots := s, locals := l }
/-- the contract of a body: handed 'as' at the heap h0 it returns, and Q tells what -/
abbrev own_Met (l : Launch) (y : MethodName) (b : ByteArray) (ml : Nat) (rt : Option FieldType) (ws : List Cond) (rm : Room) (as : Array Value) (Z : State) (h0 : Heap) (Q : Option Value → Heap → List Loc → Prop) (kc ks : Nat) : Prop :=
  MetFree l y (head1 (Cond.code y b ml rt :: ws) rm) (fun a U => a = as ∧ Z.Warmed39 U.vm ∧ U.heap = h0) (fun _ _ _ _ _ => True) (fun _ U o U' => ∃ v L, o = .returned v ∧ Q v U'.heap L ∧ FrameEnd U o U' L kc ks)
theorem own_body {l : Launch} {y : MethodName} {b : ByteArray} {ml : Nat} {rt : Option FieldType} {ws : List Cond} {rm : Room} {as : Array Value} {Z : State} {h0 : Heap} {Q : Option Value → Heap → List Loc → Prop} {kc ks : Nat} (hpl : plainFor y = true) {Ls : Array Slot} (hef : ∀ m, entryFrame m as ml = mkF m 0 Ls [])
    (k : ∀ (p : Program) (e : Env) (s : State) (m : MethodId) (below : List Frame) (meth : Method) (c : Code) (T : State), Stand p l e rm s m as below meth c T [] 0 0 → p.tables.exec = Jvm.exec → c.code = b → c.maxLocals = ml → Z.Warmed39 s.vm → T.heap = h0 → s.vm.findClass y.cls = some m.cls → meth.name = y.name → meth.locks = false → meth.sig.returnType = rt →
      own_Fin p.tables e below (own_post Q s kc ks) (T.setTop (mkF m 0 Ls []))) : own_Met l y b ml rt ws rm as Z h0 Q kc ks := by
  refine MetFree.of_bodySF hpl hisR ?_
  intro p e s m args below meth c s₁ Bd hml0 hP hK
  obtain ⟨rfl, hZ, hh⟩ := hP
  have X0 : Stand p l e rm s m args below meth c s₁ [] 0 0 := Stand.of_body Bd
  have e0 : s₁.heap = h0 := by rw [← hh, Bd.state]; rfl
  have k1 := k p e s m below meth c s₁ X0 Bd.exec Bd.bytes hml0 hZ e0 (findClass_of_methodNamed Bd.named) (name_of_methodNamed Bd.named Bd.method).1 (BodyLoose.notSynchronized Bd) Bd.returns
  show own_Fin p.tables e below (own_post Q s kc ks) (s₁.setTop (entryFrame m args ml))
  rw [hef m]
  exact k1
end Jvm.RoadKit

namespace Jvm.Pilot.@@N@@
open Jvm Jvm.ClassFile Sem Op Lib Jvm.Free Jvm.Stand Jvm.LawKit Jvm.RoadKit Bundle Jvm.Pilot.@@N@@.Jvm.D
abbrev OW (a0 : Array Value) (Z : State) : Prop := ∀ d ∈ tables_1, d.before a0 Z = true
abbrev nm0 : MethodName := (⟨"java/lang/Integer", "toUnsignedLong", "(I)J"⟩ : MethodName)
abbrev nm1 : MethodName := (⟨"com/example/mullion/mullion/service/DyadicTrie", "counted", "(I)J"⟩ : MethodName)
abbrev nm2 : MethodName := (⟨"com/example/mullion/mullion/service/DyadicTrieIsEmptyPinLaw", "start", "(II)J"⟩ : MethodName)
abbrev nm3 : MethodName := (⟨"java/lang/Object", "<init>", "()V"⟩ : MethodName)
abbrev nm4 : MethodName := (⟨"com/example/mullion/mullion/service/DyadicTrie$Node", "holds", "(J)Z"⟩ : MethodName)
abbrev nm5 : MethodName := (⟨"com/example/mullion/mullion/service/DyadicTrie$Node", "isLowerHalf", "(J)Z"⟩ : MethodName)
abbrev nm6 : MethodName := (⟨"java/lang/Integer", "numberOfLeadingZeros", "(I)I"⟩ : MethodName)
abbrev nm7 : MethodName := (⟨"java/lang/Long", "numberOfLeadingZeros", "(J)I"⟩ : MethodName)
abbrev nm8 : MethodName := (⟨"com/example/mullion/mullion/service/DyadicTrie", "startOf", "(II)J"⟩ : MethodName)
abbrev nm9 : MethodName := (⟨"com/example/mullion/mullion/service/DyadicTrie$Node", "<init>", "(IJLjava/lang/Object;)V"⟩ : MethodName)
abbrev nm10 : MethodName := (⟨"com/example/mullion/mullion/service/DyadicTrie", "link", "(Lcom/example/mullion/mullion/service/DyadicTrie$Node;JLcom/example/mullion/mullion/service/DyadicTrie$Node;)V"⟩ : MethodName)
abbrev nm11 : MethodName := (⟨"com/example/mullion/mullion/service/DyadicTrie$Node", "isWiderThan", "(IJ)Z"⟩ : MethodName)
abbrev nm12 : MethodName := (⟨"com/example/mullion/mullion/service/DyadicTrie$Node", "toward", "(J)Lcom/example/mullion/mullion/service/DyadicTrie$Node;"⟩ : MethodName)
abbrev nm13 : MethodName := (⟨"com/example/mullion/mullion/service/DyadicTrie$Node", "isAt", "(IJ)Z"⟩ : MethodName)
abbrev nm14 : MethodName := (⟨"com/example/mullion/mullion/service/DyadicTrie$Node", "attach", "(Lcom/example/mullion/mullion/service/DyadicTrie$Node;)V"⟩ : MethodName)
abbrev nm15 : MethodName := (⟨"com/example/mullion/mullion/service/DyadicTrie", "levelHolding", "(JJ)I"⟩ : MethodName)
abbrev nm16 : MethodName := (⟨"com/example/mullion/mullion/service/DyadicTrie$Node", "onlyChild", "()Lcom/example/mullion/mullion/service/DyadicTrie$Node;"⟩ : MethodName)
abbrev nm17 : MethodName := (⟨"com/example/mullion/mullion/service/DyadicTrie", "<init>", "()V"⟩ : MethodName)
abbrev nm18 : MethodName := (⟨"com/example/mullion/mullion/service/DyadicTrie", "isEmpty", "()Z"⟩ : MethodName)
abbrev nm19 : MethodName := (⟨"java/lang/Integer", "valueOf", "(I)Ljava/lang/Integer;"⟩ : MethodName)
abbrev nm20 : MethodName := (⟨"com/example/mullion/mullion/service/DyadicTrie", "put", "(IILjava/lang/Object;)V"⟩ : MethodName)
abbrev nm21 : MethodName := (⟨"com/example/mullion/mullion/service/DyadicTrieIsEmptyPinLaw", "same", "(IIII)Z"⟩ : MethodName)
abbrev nm22 : MethodName := (⟨"com/example/mullion/mullion/service/DyadicTrie", "remove", "(II)V"⟩ : MethodName)
abbrev fl0 (Z : State) (h : Heap) (a : Addr) (v : Value) : Prop := Fld Z h a "com/example/mullion/mullion/service/DyadicTrie" "root" "Lcom/example/mullion/mullion/service/DyadicTrie$Node;" v
abbrev ex1 (Z : State) (h : Heap) (a : Addr) : Prop := Exa Z h a "com/example/mullion/mullion/service/DyadicTrie$Node"
abbrev fl2 (Z : State) (h : Heap) (a : Addr) (v : Value) : Prop := Fld Z h a "com/example/mullion/mullion/service/DyadicTrie$Node" "level" "I" v
abbrev fl3 (Z : State) (h : Heap) (a : Addr) (v : Value) : Prop := Fld Z h a "com/example/mullion/mullion/service/DyadicTrie$Node" "start" "J" v
abbrev fl4 (Z : State) (h : Heap) (a : Addr) (v : Value) : Prop := Fld Z h a "com/example/mullion/mullion/service/DyadicTrie$Node" "value" "Ljava/lang/Object;" v
abbrev fl5 (Z : State) (h : Heap) (a : Addr) (v : Value) : Prop := Fld Z h a "com/example/mullion/mullion/service/DyadicTrie$Node" "low" "Lcom/example/mullion/mullion/service/DyadicTrie$Node;" v
abbrev fl6 (Z : State) (h : Heap) (a : Addr) (v : Value) : Prop := Fld Z h a "com/example/mullion/mullion/service/DyadicTrie$Node" "high" "Lcom/example/mullion/mullion/service/DyadicTrie$Node;" v
abbrev ex7 (Z : State) (h : Heap) (a : Addr) : Prop := Exa Z h a "com/example/mullion/mullion/service/DyadicTrie"
theorem wd0 {a0 : Array Value} {Z : State} (hw : OW a0 Z) : (Jvm.Cond.classLink "com/example/mullion/mullion/service/DyadicTrieIsEmptyPinLaw" (22 : Nat) "com/example/mullion/mullion/service/DyadicTrie").before a0 Z = true := hw _ (List.mem_of_getElem? (i := 0) rfl)
theorem wd1 {a0 : Array Value} {Z : State} (hw : OW a0 Z) : (Jvm.Cond.instantiable "com/example/mullion/mullion/service/DyadicTrie" (1 : Nat)).before a0 Z = true := hw _ (List.mem_of_getElem? (i := 1) rfl)
theorem wd2 {a0 : Array Value} {Z : State} (hw : OW a0 Z) : (Jvm.Cond.initialized "com/example/mullion/mullion/service/DyadicTrie").before a0 Z = true := hw _ (List.mem_of_getElem? (i := 2) rfl)
theorem wd3 {a0 : Array Value} {Z : State} (hw : OW a0 Z) : (Jvm.Cond.methodLink "com/example/mullion/mullion/service/DyadicTrieIsEmptyPinLaw" (24 : Nat) nm17).before a0 Z = true := hw _ (List.mem_of_getElem? (i := 3) rfl)
theorem wd4 {a0 : Array Value} {Z : State} (hw : OW a0 Z) : (Jvm.Cond.instanceMethod nm17).before a0 Z = true := hw _ (List.mem_of_getElem? (i := 4) rfl)
theorem wd5 {a0 : Array Value} {Z : State} (hw : OW a0 Z) : (Jvm.Cond.code nm17 prog_41_method_1_code (1 : Nat) (Option.none : Option Jvm.ClassFile.FieldType)).before a0 Z = true := hw _ (List.mem_of_getElem? (i := 5) rfl)
theorem wd6 {a0 : Array Value} {Z : State} (hw : OW a0 Z) : (Jvm.Cond.methodLink "com/example/mullion/mullion/service/DyadicTrie" (1 : Nat) nm3).before a0 Z = true := hw _ (List.mem_of_getElem? (i := 6) rfl)
theorem wd7 {a0 : Array Value} {Z : State} (hw : OW a0 Z) : (Jvm.Cond.instanceMethod nm3).before a0 Z = true := hw _ (List.mem_of_getElem? (i := 7) rfl)
theorem wd8 {a0 : Array Value} {Z : State} (hw : OW a0 Z) : (Jvm.Cond.code nm3 object_method_1_code (1 : Nat) (Option.none : Option Jvm.ClassFile.FieldType)).before a0 Z = true := hw _ (List.mem_of_getElem? (i := 8) rfl)
theorem wd9 {a0 : Array Value} {Z : State} (hw : OW a0 Z) : (Jvm.Cond.methodLink "com/example/mullion/mullion/service/DyadicTrieIsEmptyPinLaw" (25 : Nat) nm18).before a0 Z = true := hw _ (List.mem_of_getElem? (i := 9) rfl)
theorem wd10 {a0 : Array Value} {Z : State} (hw : OW a0 Z) : (Jvm.Cond.declares nm18).before a0 Z = true := hw _ (List.mem_of_getElem? (i := 10) rfl)
theorem wd11 {a0 : Array Value} {Z : State} (hw : OW a0 Z) : (Jvm.Cond.instanceMethod nm18).before a0 Z = true := hw _ (List.mem_of_getElem? (i := 11) rfl)
theorem wd12 {a0 : Array Value} {Z : State} (hw : OW a0 Z) : (Jvm.Cond.selects "com/example/mullion/mullion/service/DyadicTrie" nm18 nm18).before a0 Z = true := hw _ (List.mem_of_getElem? (i := 12) rfl)
theorem wd13 {a0 : Array Value} {Z : State} (hw : OW a0 Z) : (Jvm.Cond.code nm18 prog_41_method_3_code (1 : Nat) (Option.some Jvm.ClassFile.FieldType.boolean)).before a0 Z = true := hw _ (List.mem_of_getElem? (i := 13) rfl)
theorem wd14 {a0 : Array Value} {Z : State} (hw : OW a0 Z) : (Jvm.Cond.fieldLink "com/example/mullion/mullion/service/DyadicTrie" (17 : Nat) "com/example/mullion/mullion/service/DyadicTrie" "root" "Lcom/example/mullion/mullion/service/DyadicTrie$Node;").before a0 Z = true := hw _ (List.mem_of_getElem? (i := 14) rfl)
theorem wd15 {a0 : Array Value} {Z : State} (hw : OW a0 Z) : (Jvm.Cond.lays "com/example/mullion/mullion/service/DyadicTrie" "com/example/mullion/mullion/service/DyadicTrie" "root" "Lcom/example/mullion/mullion/service/DyadicTrie$Node;").before a0 Z = true := hw _ (List.mem_of_getElem? (i := 15) rfl)
theorem wd16 {a0 : Array Value} {Z : State} (hw : OW a0 Z) : (Jvm.Cond.methodLink "com/example/mullion/mullion/service/DyadicTrieIsEmptyPinLaw" (29 : Nat) nm19).before a0 Z = true := hw _ (List.mem_of_getElem? (i := 16) rfl)
theorem wd17 {a0 : Array Value} {Z : State} (hw : OW a0 Z) : (Jvm.Cond.static nm19).before a0 Z = true := hw _ (List.mem_of_getElem? (i := 17) rfl)
theorem wd18 {a0 : Array Value} {Z : State} (hw : OW a0 Z) : (Jvm.Cond.initialized "java/lang/Integer").before a0 Z = true := hw _ (List.mem_of_getElem? (i := 18) rfl)
theorem wd19 {a0 : Array Value} {Z : State} (hw : OW a0 Z) : (Jvm.Cond.code nm19 jdk_33_method_22_code (1 : Nat) (Option.some (Jvm.ClassFile.FieldType.object "java/lang/Integer"))).before a0 Z = true := hw _ (List.mem_of_getElem? (i := 19) rfl)
theorem wd20 {a0 : Array Value} {Z : State} (hw : OW a0 Z) : (Jvm.Cond.fieldLink "java/lang/Integer" (191 : Nat) "java/lang/Integer$IntegerCache" "high" "I").before a0 Z = true := hw _ (List.mem_of_getElem? (i := 20) rfl)
theorem wd22 {a0 : Array Value} {Z : State} (hw : OW a0 Z) : (Jvm.Cond.fieldLink "java/lang/Integer" (195 : Nat) "java/lang/Integer$IntegerCache" "cache" "[Ljava/lang/Integer;").before a0 Z = true := hw _ (List.mem_of_getElem? (i := 22) rfl)
theorem wd23 {a0 : Array Value} {Z : State} (hw : OW a0 Z) : (Jvm.Cond.methodLink "com/example/mullion/mullion/service/DyadicTrieIsEmptyPinLaw" (33 : Nat) nm20).before a0 Z = true := hw _ (List.mem_of_getElem? (i := 23) rfl)
theorem wd24 {a0 : Array Value} {Z : State} (hw : OW a0 Z) : (Jvm.Cond.declares nm20).before a0 Z = true := hw _ (List.mem_of_getElem? (i := 24) rfl)
theorem wd25 {a0 : Array Value} {Z : State} (hw : OW a0 Z) : (Jvm.Cond.instanceMethod nm20).before a0 Z = true := hw _ (List.mem_of_getElem? (i := 25) rfl)
theorem wd26 {a0 : Array Value} {Z : State} (hw : OW a0 Z) : (Jvm.Cond.selects "com/example/mullion/mullion/service/DyadicTrie" nm20 nm20).before a0 Z = true := hw _ (List.mem_of_getElem? (i := 26) rfl)
theorem wd27 {a0 : Array Value} {Z : State} (hw : OW a0 Z) : (Jvm.Cond.code nm20 prog_41_method_6_code (11 : Nat) (Option.none : Option Jvm.ClassFile.FieldType)).before a0 Z = true := hw _ (List.mem_of_getElem? (i := 27) rfl)
theorem wd28 {a0 : Array Value} {Z : State} (hw : OW a0 Z) : (Jvm.Cond.methodLink "com/example/mullion/mullion/service/DyadicTrie" (27 : Nat) nm8).before a0 Z = true := hw _ (List.mem_of_getElem? (i := 28) rfl)
theorem wd29 {a0 : Array Value} {Z : State} (hw : OW a0 Z) : (Jvm.Cond.static nm8).before a0 Z = true := hw _ (List.mem_of_getElem? (i := 29) rfl)
theorem wd30 {a0 : Array Value} {Z : State} (hw : OW a0 Z) : (Jvm.Cond.code nm8 prog_41_method_10_code (2 : Nat) (Option.some Jvm.ClassFile.FieldType.long)).before a0 Z = true := hw _ (List.mem_of_getElem? (i := 30) rfl)
theorem wd31 {a0 : Array Value} {Z : State} (hw : OW a0 Z) : (Jvm.Cond.methodLink "com/example/mullion/mullion/service/DyadicTrie" (7 : Nat) nm1).before a0 Z = true := hw _ (List.mem_of_getElem? (i := 31) rfl)
theorem wd32 {a0 : Array Value} {Z : State} (hw : OW a0 Z) : (Jvm.Cond.static nm1).before a0 Z = true := hw _ (List.mem_of_getElem? (i := 32) rfl)
theorem wd33 {a0 : Array Value} {Z : State} (hw : OW a0 Z) : (Jvm.Cond.code nm1 prog_41_method_11_code (1 : Nat) (Option.some Jvm.ClassFile.FieldType.long)).before a0 Z = true := hw _ (List.mem_of_getElem? (i := 33) rfl)
theorem wd34 {a0 : Array Value} {Z : State} (hw : OW a0 Z) : (Jvm.Cond.constant "com/example/mullion/mullion/service/DyadicTrie" (86 : Nat) (-2147483648 : Int32)).before a0 Z = true := hw _ (List.mem_of_getElem? (i := 34) rfl)
theorem wd35 {a0 : Array Value} {Z : State} (hw : OW a0 Z) : (Jvm.Cond.methodLink "com/example/mullion/mullion/service/DyadicTrie" (87 : Nat) nm0).before a0 Z = true := hw _ (List.mem_of_getElem? (i := 35) rfl)
theorem wd36 {a0 : Array Value} {Z : State} (hw : OW a0 Z) : (Jvm.Cond.static nm0).before a0 Z = true := hw _ (List.mem_of_getElem? (i := 36) rfl)
theorem wd37 {a0 : Array Value} {Z : State} (hw : OW a0 Z) : (Jvm.Cond.code nm0 jdk_33_method_42_code (1 : Nat) (Option.some Jvm.ClassFile.FieldType.long)).before a0 Z = true := hw _ (List.mem_of_getElem? (i := 37) rfl)
theorem wd38 {a0 : Array Value} {Z : State} (hw : OW a0 Z) : (Jvm.Cond.constantLong "java/lang/Integer" (262 : Nat) (4294967295 : Int64)).before a0 Z = true := hw _ (List.mem_of_getElem? (i := 38) rfl)
theorem wd39 {a0 : Array Value} {Z : State} (hw : OW a0 Z) : (Jvm.Cond.classLink "com/example/mullion/mullion/service/DyadicTrie" (22 : Nat) "com/example/mullion/mullion/service/DyadicTrie$Node").before a0 Z = true := hw _ (List.mem_of_getElem? (i := 39) rfl)
theorem wd40 {a0 : Array Value} {Z : State} (hw : OW a0 Z) : (Jvm.Cond.instantiable "com/example/mullion/mullion/service/DyadicTrie$Node" (5 : Nat)).before a0 Z = true := hw _ (List.mem_of_getElem? (i := 40) rfl)
theorem wd41 {a0 : Array Value} {Z : State} (hw : OW a0 Z) : (Jvm.Cond.initialized "com/example/mullion/mullion/service/DyadicTrie$Node").before a0 Z = true := hw _ (List.mem_of_getElem? (i := 41) rfl)
theorem wd42 {a0 : Array Value} {Z : State} (hw : OW a0 Z) : (Jvm.Cond.methodRef "com/example/mullion/mullion/service/DyadicTrie" (46 : Nat) nm9).before a0 Z = true := hw _ (List.mem_of_getElem? (i := 42) rfl)
theorem wd43 {a0 : Array Value} {Z : State} (hw : OW a0 Z) : (Jvm.Cond.instanceMethod nm9).before a0 Z = true := hw _ (List.mem_of_getElem? (i := 43) rfl)
theorem wd44 {a0 : Array Value} {Z : State} (hw : OW a0 Z) : (Jvm.Cond.code nm9 prog_42_method_1_code (5 : Nat) (Option.none : Option Jvm.ClassFile.FieldType)).before a0 Z = true := hw _ (List.mem_of_getElem? (i := 44) rfl)
theorem wd45 {a0 : Array Value} {Z : State} (hw : OW a0 Z) : (Jvm.Cond.methodLink "com/example/mullion/mullion/service/DyadicTrie$Node" (1 : Nat) nm3).before a0 Z = true := hw _ (List.mem_of_getElem? (i := 45) rfl)
theorem wd46 {a0 : Array Value} {Z : State} (hw : OW a0 Z) : (Jvm.Cond.fieldLink "com/example/mullion/mullion/service/DyadicTrie$Node" (7 : Nat) "com/example/mullion/mullion/service/DyadicTrie$Node" "level" "I").before a0 Z = true := hw _ (List.mem_of_getElem? (i := 46) rfl)
theorem wd47 {a0 : Array Value} {Z : State} (hw : OW a0 Z) : (Jvm.Cond.laysFinal "com/example/mullion/mullion/service/DyadicTrie$Node" "com/example/mullion/mullion/service/DyadicTrie$Node" "level" "I").before a0 Z = true := hw _ (List.mem_of_getElem? (i := 47) rfl)
theorem wd48 {a0 : Array Value} {Z : State} (hw : OW a0 Z) : (Jvm.Cond.fieldLink "com/example/mullion/mullion/service/DyadicTrie$Node" (13 : Nat) "com/example/mullion/mullion/service/DyadicTrie$Node" "start" "J").before a0 Z = true := hw _ (List.mem_of_getElem? (i := 48) rfl)
theorem wd49 {a0 : Array Value} {Z : State} (hw : OW a0 Z) : (Jvm.Cond.laysFinal "com/example/mullion/mullion/service/DyadicTrie$Node" "com/example/mullion/mullion/service/DyadicTrie$Node" "start" "J").before a0 Z = true := hw _ (List.mem_of_getElem? (i := 49) rfl)
theorem wd50 {a0 : Array Value} {Z : State} (hw : OW a0 Z) : (Jvm.Cond.fieldLink "com/example/mullion/mullion/service/DyadicTrie$Node" (17 : Nat) "com/example/mullion/mullion/service/DyadicTrie$Node" "value" "Ljava/lang/Object;").before a0 Z = true := hw _ (List.mem_of_getElem? (i := 50) rfl)
theorem wd51 {a0 : Array Value} {Z : State} (hw : OW a0 Z) : (Jvm.Cond.lays "com/example/mullion/mullion/service/DyadicTrie$Node" "com/example/mullion/mullion/service/DyadicTrie$Node" "value" "Ljava/lang/Object;").before a0 Z = true := hw _ (List.mem_of_getElem? (i := 51) rfl)
theorem wd52 {a0 : Array Value} {Z : State} (hw : OW a0 Z) : (Jvm.Cond.methodLink "com/example/mullion/mullion/service/DyadicTrie" (61 : Nat) nm10).before a0 Z = true := hw _ (List.mem_of_getElem? (i := 52) rfl)
theorem wd53 {a0 : Array Value} {Z : State} (hw : OW a0 Z) : (Jvm.Cond.instanceMethod nm10).before a0 Z = true := hw _ (List.mem_of_getElem? (i := 53) rfl)
theorem wd54 {a0 : Array Value} {Z : State} (hw : OW a0 Z) : (Jvm.Cond.privateMethod nm10).before a0 Z = true := hw _ (List.mem_of_getElem? (i := 54) rfl)
theorem wd55 {a0 : Array Value} {Z : State} (hw : OW a0 Z) : (Jvm.Cond.code nm10 prog_41_method_8_code (5 : Nat) (Option.none : Option Jvm.ClassFile.FieldType)).before a0 Z = true := hw _ (List.mem_of_getElem? (i := 55) rfl)
theorem wd56 {a0 : Array Value} {Z : State} (hw : OW a0 Z) : (Jvm.Cond.methodLink "com/example/mullion/mullion/service/DyadicTrieIsEmptyPinLaw" (18 : Nat) nm21).before a0 Z = true := hw _ (List.mem_of_getElem? (i := 56) rfl)
theorem wd57 {a0 : Array Value} {Z : State} (hw : OW a0 Z) : (Jvm.Cond.static nm21).before a0 Z = true := hw _ (List.mem_of_getElem? (i := 57) rfl)
theorem wd58 {a0 : Array Value} {Z : State} (hw : OW a0 Z) : (Jvm.Cond.initialized "com/example/mullion/mullion/service/DyadicTrieIsEmptyPinLaw").before a0 Z = true := hw _ (List.mem_of_getElem? (i := 58) rfl)
theorem wd59 {a0 : Array Value} {Z : State} (hw : OW a0 Z) : (Jvm.Cond.code nm21 method_3_code (4 : Nat) (Option.some Jvm.ClassFile.FieldType.boolean)).before a0 Z = true := hw _ (List.mem_of_getElem? (i := 59) rfl)
theorem wd60 {a0 : Array Value} {Z : State} (hw : OW a0 Z) : (Jvm.Cond.methodRef "com/example/mullion/mullion/service/DyadicTrie" (31 : Nat) nm11).before a0 Z = true := hw _ (List.mem_of_getElem? (i := 60) rfl)
theorem wd61 {a0 : Array Value} {Z : State} (hw : OW a0 Z) : (Jvm.Cond.instanceMethod nm11).before a0 Z = true := hw _ (List.mem_of_getElem? (i := 61) rfl)
theorem wd62 {a0 : Array Value} {Z : State} (hw : OW a0 Z) : (Jvm.Cond.privateMethod nm11).before a0 Z = true := hw _ (List.mem_of_getElem? (i := 62) rfl)
theorem wd63 {a0 : Array Value} {Z : State} (hw : OW a0 Z) : (Jvm.Cond.code nm11 prog_42_method_6_code (4 : Nat) (Option.some Jvm.ClassFile.FieldType.boolean)).before a0 Z = true := hw _ (List.mem_of_getElem? (i := 63) rfl)
theorem wd64 {a0 : Array Value} {Z : State} (hw : OW a0 Z) : (Jvm.Cond.methodLink "com/example/mullion/mullion/service/DyadicTrie$Node" (35 : Nat) nm4).before a0 Z = true := hw _ (List.mem_of_getElem? (i := 64) rfl)
theorem wd65 {a0 : Array Value} {Z : State} (hw : OW a0 Z) : (Jvm.Cond.instanceMethod nm4).before a0 Z = true := hw _ (List.mem_of_getElem? (i := 65) rfl)
theorem wd66 {a0 : Array Value} {Z : State} (hw : OW a0 Z) : (Jvm.Cond.privateMethod nm4).before a0 Z = true := hw _ (List.mem_of_getElem? (i := 66) rfl)
theorem wd67 {a0 : Array Value} {Z : State} (hw : OW a0 Z) : (Jvm.Cond.code nm4 prog_42_method_5_code (3 : Nat) (Option.some Jvm.ClassFile.FieldType.boolean)).before a0 Z = true := hw _ (List.mem_of_getElem? (i := 67) rfl)
theorem wd68 {a0 : Array Value} {Z : State} (hw : OW a0 Z) : (Jvm.Cond.methodRef "com/example/mullion/mullion/service/DyadicTrie" (39 : Nat) nm13).before a0 Z = true := hw _ (List.mem_of_getElem? (i := 68) rfl)
theorem wd69 {a0 : Array Value} {Z : State} (hw : OW a0 Z) : (Jvm.Cond.instanceMethod nm13).before a0 Z = true := hw _ (List.mem_of_getElem? (i := 69) rfl)
theorem wd70 {a0 : Array Value} {Z : State} (hw : OW a0 Z) : (Jvm.Cond.privateMethod nm13).before a0 Z = true := hw _ (List.mem_of_getElem? (i := 70) rfl)
theorem wd71 {a0 : Array Value} {Z : State} (hw : OW a0 Z) : (Jvm.Cond.code nm13 prog_42_method_7_code (4 : Nat) (Option.some Jvm.ClassFile.FieldType.boolean)).before a0 Z = true := hw _ (List.mem_of_getElem? (i := 71) rfl)
theorem wd72 {a0 : Array Value} {Z : State} (hw : OW a0 Z) : (Jvm.Cond.fieldRef "com/example/mullion/mullion/service/DyadicTrie" (49 : Nat) "com/example/mullion/mullion/service/DyadicTrie$Node" "level" "I").before a0 Z = true := hw _ (List.mem_of_getElem? (i := 72) rfl)
theorem wd73 {a0 : Array Value} {Z : State} (hw : OW a0 Z) : (Jvm.Cond.fieldRef "com/example/mullion/mullion/service/DyadicTrie" (53 : Nat) "com/example/mullion/mullion/service/DyadicTrie$Node" "start" "J").before a0 Z = true := hw _ (List.mem_of_getElem? (i := 73) rfl)
theorem wd74 {a0 : Array Value} {Z : State} (hw : OW a0 Z) : (Jvm.Cond.methodLink "com/example/mullion/mullion/service/DyadicTrie" (13 : Nat) nm15).before a0 Z = true := hw _ (List.mem_of_getElem? (i := 74) rfl)
theorem wd75 {a0 : Array Value} {Z : State} (hw : OW a0 Z) : (Jvm.Cond.static nm15).before a0 Z = true := hw _ (List.mem_of_getElem? (i := 75) rfl)
theorem wd76 {a0 : Array Value} {Z : State} (hw : OW a0 Z) : (Jvm.Cond.code nm15 prog_41_method_9_code (4 : Nat) (Option.some Jvm.ClassFile.FieldType.int)).before a0 Z = true := hw _ (List.mem_of_getElem? (i := 76) rfl)
theorem wd77 {a0 : Array Value} {Z : State} (hw : OW a0 Z) : (Jvm.Cond.methodLink "com/example/mullion/mullion/service/DyadicTrie" (80 : Nat) nm7).before a0 Z = true := hw _ (List.mem_of_getElem? (i := 77) rfl)
theorem wd78 {a0 : Array Value} {Z : State} (hw : OW a0 Z) : (Jvm.Cond.static nm7).before a0 Z = true := hw _ (List.mem_of_getElem? (i := 78) rfl)
theorem wd79 {a0 : Array Value} {Z : State} (hw : OW a0 Z) : (Jvm.Cond.initialized "java/lang/Long").before a0 Z = true := hw _ (List.mem_of_getElem? (i := 79) rfl)
theorem wd80 {a0 : Array Value} {Z : State} (hw : OW a0 Z) : (Jvm.Cond.code nm7 jdk_35_method_48_code (3 : Nat) (Option.some Jvm.ClassFile.FieldType.int)).before a0 Z = true := hw _ (List.mem_of_getElem? (i := 80) rfl)
theorem wd81 {a0 : Array Value} {Z : State} (hw : OW a0 Z) : (Jvm.Cond.methodLink "java/lang/Long" (308 : Nat) nm6).before a0 Z = true := hw _ (List.mem_of_getElem? (i := 81) rfl)
theorem wd82 {a0 : Array Value} {Z : State} (hw : OW a0 Z) : (Jvm.Cond.static nm6).before a0 Z = true := hw _ (List.mem_of_getElem? (i := 82) rfl)
theorem wd83 {a0 : Array Value} {Z : State} (hw : OW a0 Z) : (Jvm.Cond.code nm6 jdk_33_method_47_code (2 : Nat) (Option.some Jvm.ClassFile.FieldType.int)).before a0 Z = true := hw _ (List.mem_of_getElem? (i := 83) rfl)
theorem wd84 {a0 : Array Value} {Z : State} (hw : OW a0 Z) : (Jvm.Cond.methodRef "com/example/mullion/mullion/service/DyadicTrie" (57 : Nat) nm14).before a0 Z = true := hw _ (List.mem_of_getElem? (i := 84) rfl)
theorem wd85 {a0 : Array Value} {Z : State} (hw : OW a0 Z) : (Jvm.Cond.instanceMethod nm14).before a0 Z = true := hw _ (List.mem_of_getElem? (i := 85) rfl)
theorem wd86 {a0 : Array Value} {Z : State} (hw : OW a0 Z) : (Jvm.Cond.privateMethod nm14).before a0 Z = true := hw _ (List.mem_of_getElem? (i := 86) rfl)
theorem wd87 {a0 : Array Value} {Z : State} (hw : OW a0 Z) : (Jvm.Cond.code nm14 prog_42_method_10_code (2 : Nat) (Option.none : Option Jvm.ClassFile.FieldType)).before a0 Z = true := hw _ (List.mem_of_getElem? (i := 87) rfl)
theorem wd88 {a0 : Array Value} {Z : State} (hw : OW a0 Z) : (Jvm.Cond.methodLink "com/example/mullion/mullion/service/DyadicTrie$Node" (39 : Nat) nm5).before a0 Z = true := hw _ (List.mem_of_getElem? (i := 88) rfl)
theorem wd89 {a0 : Array Value} {Z : State} (hw : OW a0 Z) : (Jvm.Cond.instanceMethod nm5).before a0 Z = true := hw _ (List.mem_of_getElem? (i := 89) rfl)
theorem wd90 {a0 : Array Value} {Z : State} (hw : OW a0 Z) : (Jvm.Cond.privateMethod nm5).before a0 Z = true := hw _ (List.mem_of_getElem? (i := 90) rfl)
theorem wd91 {a0 : Array Value} {Z : State} (hw : OW a0 Z) : (Jvm.Cond.code nm5 prog_42_method_9_code (3 : Nat) (Option.some Jvm.ClassFile.FieldType.boolean)).before a0 Z = true := hw _ (List.mem_of_getElem? (i := 91) rfl)
theorem wd92 {a0 : Array Value} {Z : State} (hw : OW a0 Z) : (Jvm.Cond.fieldLink "com/example/mullion/mullion/service/DyadicTrie$Node" (46 : Nat) "com/example/mullion/mullion/service/DyadicTrie$Node" "high" "Lcom/example/mullion/mullion/service/DyadicTrie$Node;").before a0 Z = true := hw _ (List.mem_of_getElem? (i := 92) rfl)
theorem wd93 {a0 : Array Value} {Z : State} (hw : OW a0 Z) : (Jvm.Cond.lays "com/example/mullion/mullion/service/DyadicTrie$Node" "com/example/mullion/mullion/service/DyadicTrie$Node" "high" "Lcom/example/mullion/mullion/service/DyadicTrie$Node;").before a0 Z = true := hw _ (List.mem_of_getElem? (i := 93) rfl)
theorem wd94 {a0 : Array Value} {Z : State} (hw : OW a0 Z) : (Jvm.Cond.fieldLink "com/example/mullion/mullion/service/DyadicTrie$Node" (42 : Nat) "com/example/mullion/mullion/service/DyadicTrie$Node" "low" "Lcom/example/mullion/mullion/service/DyadicTrie$Node;").before a0 Z = true := hw _ (List.mem_of_getElem? (i := 94) rfl)
theorem wd95 {a0 : Array Value} {Z : State} (hw : OW a0 Z) : (Jvm.Cond.lays "com/example/mullion/mullion/service/DyadicTrie$Node" "com/example/mullion/mullion/service/DyadicTrie$Node" "low" "Lcom/example/mullion/mullion/service/DyadicTrie$Node;").before a0 Z = true := hw _ (List.mem_of_getElem? (i := 95) rfl)
theorem wd96 {a0 : Array Value} {Z : State} (hw : OW a0 Z) : (Jvm.Cond.methodLink "com/example/mullion/mullion/service/DyadicTrieIsEmptyPinLaw" (37 : Nat) nm22).before a0 Z = true := hw _ (List.mem_of_getElem? (i := 96) rfl)
theorem wd97 {a0 : Array Value} {Z : State} (hw : OW a0 Z) : (Jvm.Cond.declares nm22).before a0 Z = true := hw _ (List.mem_of_getElem? (i := 97) rfl)
theorem wd98 {a0 : Array Value} {Z : State} (hw : OW a0 Z) : (Jvm.Cond.instanceMethod nm22).before a0 Z = true := hw _ (List.mem_of_getElem? (i := 98) rfl)
theorem wd99 {a0 : Array Value} {Z : State} (hw : OW a0 Z) : (Jvm.Cond.selects "com/example/mullion/mullion/service/DyadicTrie" nm22 nm22).before a0 Z = true := hw _ (List.mem_of_getElem? (i := 99) rfl)
theorem wd100 {a0 : Array Value} {Z : State} (hw : OW a0 Z) : (Jvm.Cond.code nm22 prog_41_method_7_code (9 : Nat) (Option.none : Option Jvm.ClassFile.FieldType)).before a0 Z = true := hw _ (List.mem_of_getElem? (i := 100) rfl)
theorem wd101 {a0 : Array Value} {Z : State} (hw : OW a0 Z) : (Jvm.Cond.methodRef "com/example/mullion/mullion/service/DyadicTrie" (35 : Nat) nm12).before a0 Z = true := hw _ (List.mem_of_getElem? (i := 101) rfl)
theorem wd102 {a0 : Array Value} {Z : State} (hw : OW a0 Z) : (Jvm.Cond.instanceMethod nm12).before a0 Z = true := hw _ (List.mem_of_getElem? (i := 102) rfl)
theorem wd103 {a0 : Array Value} {Z : State} (hw : OW a0 Z) : (Jvm.Cond.privateMethod nm12).before a0 Z = true := hw _ (List.mem_of_getElem? (i := 103) rfl)
theorem wd104 {a0 : Array Value} {Z : State} (hw : OW a0 Z) : (Jvm.Cond.code nm12 prog_42_method_8_code (3 : Nat) (Option.some (Jvm.ClassFile.FieldType.object "com/example/mullion/mullion/service/DyadicTrie$Node"))).before a0 Z = true := hw _ (List.mem_of_getElem? (i := 104) rfl)
theorem wd105 {a0 : Array Value} {Z : State} (hw : OW a0 Z) : (Jvm.Cond.fieldRef "com/example/mullion/mullion/service/DyadicTrie" (42 : Nat) "com/example/mullion/mullion/service/DyadicTrie$Node" "value" "Ljava/lang/Object;").before a0 Z = true := hw _ (List.mem_of_getElem? (i := 105) rfl)
theorem wd106 {a0 : Array Value} {Z : State} (hw : OW a0 Z) : (Jvm.Cond.fieldRef "com/example/mullion/mullion/service/DyadicTrie" (65 : Nat) "com/example/mullion/mullion/service/DyadicTrie$Node" "low" "Lcom/example/mullion/mullion/service/DyadicTrie$Node;").before a0 Z = true := hw _ (List.mem_of_getElem? (i := 106) rfl)
theorem wd107 {a0 : Array Value} {Z : State} (hw : OW a0 Z) : (Jvm.Cond.methodRef "com/example/mullion/mullion/service/DyadicTrie" (71 : Nat) nm16).before a0 Z = true := hw _ (List.mem_of_getElem? (i := 107) rfl)
theorem wd108 {a0 : Array Value} {Z : State} (hw : OW a0 Z) : (Jvm.Cond.instanceMethod nm16).before a0 Z = true := hw _ (List.mem_of_getElem? (i := 108) rfl)
theorem wd109 {a0 : Array Value} {Z : State} (hw : OW a0 Z) : (Jvm.Cond.privateMethod nm16).before a0 Z = true := hw _ (List.mem_of_getElem? (i := 109) rfl)
theorem wd110 {a0 : Array Value} {Z : State} (hw : OW a0 Z) : (Jvm.Cond.code nm16 prog_42_method_11_code (1 : Nat) (Option.some (Jvm.ClassFile.FieldType.object "com/example/mullion/mullion/service/DyadicTrie$Node"))).before a0 Z = true := hw _ (List.mem_of_getElem? (i := 110) rfl)
theorem wd111 {a0 : Array Value} {Z : State} (hw : OW a0 Z) : (Jvm.Cond.methodRef "com/example/mullion/mullion/service/DyadicTrie" (75 : Nat) nm5).before a0 Z = true := hw _ (List.mem_of_getElem? (i := 111) rfl)
theorem wd112 {a0 : Array Value} {Z : State} (hw : OW a0 Z) : (Jvm.Cond.fieldRef "com/example/mullion/mullion/service/DyadicTrie" (68 : Nat) "com/example/mullion/mullion/service/DyadicTrie$Node" "high" "Lcom/example/mullion/mullion/service/DyadicTrie$Node;").before a0 Z = true := hw _ (List.mem_of_getElem? (i := 112) rfl)
theorem wd113 {a0 : Array Value} {Z : State} (hw : OW a0 Z) : (Jvm.Cond.methodLink "com/example/mullion/mullion/service/DyadicTrieIsEmptyPinLaw" (12 : Nat) nm2).before a0 Z = true := hw _ (List.mem_of_getElem? (i := 113) rfl)
theorem wd114 {a0 : Array Value} {Z : State} (hw : OW a0 Z) : (Jvm.Cond.static nm2).before a0 Z = true := hw _ (List.mem_of_getElem? (i := 114) rfl)
theorem wd115 {a0 : Array Value} {Z : State} (hw : OW a0 Z) : (Jvm.Cond.code nm2 method_2_code (4 : Nat) (Option.some Jvm.ClassFile.FieldType.long)).before a0 Z = true := hw _ (List.mem_of_getElem? (i := 115) rfl)
theorem wd116 {a0 : Array Value} {Z : State} (hw : OW a0 Z) : (Jvm.Cond.constant "com/example/mullion/mullion/service/DyadicTrieIsEmptyPinLaw" (9 : Nat) (-2147483648 : Int32)).before a0 Z = true := hw _ (List.mem_of_getElem? (i := 116) rfl)
theorem wd117 {a0 : Array Value} {Z : State} (hw : OW a0 Z) : (Jvm.Cond.constantLong "com/example/mullion/mullion/service/DyadicTrieIsEmptyPinLaw" (10 : Nat) (4294967295 : Int64)).before a0 Z = true := hw _ (List.mem_of_getElem? (i := 117) rfl)
theorem wd118 {a0 : Array Value} {Z : State} (hw : OW a0 Z) : (Jvm.Cond.constant "java/lang/Integer" (264 : Nat) (65536 : Int32)).before a0 Z = true := hw _ (List.mem_of_getElem? (i := 118) rfl)
theorem own_irem (a r : Int32) : (a - (a / r) * r) = a % r := irem_eq_mod a r
theorem own_rem {q r : Int32} (k : Int) (hk : r.toInt = k) (h0 : 0 < k) {v : Int32} (hv : v = ((q &&& (2147483647 : Int32)) - ((q &&& (2147483647 : Int32)) / r) * r)) : 0 ≤ v.toInt ∧ v.toInt < k := by
  have h1 := c_mask q 2147483647 31 (by decide) (by decide)
  have e : v = (q &&& (2147483647 : Int32)) % r := by
    rw [hv]; exact own_irem _ _
  have h2 := c_irem (q &&& (2147483647 : Int32)) r k hk
  rw [← e] at h2
  have h3 : 0 ≤ (q &&& (2147483647 : Int32)).toInt := by omega
  rw [h2.1 h3]
  exact ⟨Int.emod_nonneg _ (by omega), Int.emod_lt_of_pos _ h0⟩
theorem own_lit {v : Int32} (n : Int32) (h : v.toInt = n.toInt) : v = n := Int32.toInt_inj.mp h
def own_sh (s : Int64) (l : Int32) : Int64 := ((s.toUInt64 >>> (l &&& 0x3f).toInt64.toUInt64).toInt64)
def own_shl (s : Int64) (l : Int32) : Int64 := (s <<< (l &&& 0x3f).toInt64)
def own_cnt (q : Int32) : Int64 := (((q ^^^ (-2147483648 : Int32)).toInt64) &&& (4294967295 : Int64))
def own_start (l q : Int32) : Int64 := own_shl (own_sh (own_cnt q) l) l
def own_holds (lv : Int32) (sv s : Int64) : Prop := own_sh s lv = own_sh sv lv
def own_low (lv : Int32) (s : Int64) : Prop := (s &&& ((1 : Int64) <<< ((lv - (1 : Int32)) &&& 0x3f).toInt64)) = (0 : Int64)
def own_wid (lv : Int32) (sv : Int64) (l : Int32) (s : Int64) : Prop := l < lv ∧ own_holds lv sv s
theorem own_lk {l : Int32} {k : Nat} (h : l.toInt = (k : Int)) (hk : k < 64) : l.toBitVec.toNat % 64 = k := by
  have h1 : l.toBitVec.toInt = (k : Int) := h
  rw [BitVec.toInt_eq_toNat_cond] at h1
  have := l.toBitVec.isLt
  split at h1 <;> omega
theorem own_sh_v {s : Int64} {l : Int32} {k : Nat} (hs : 0 ≤ s.toInt) (h : l.toInt = (k : Int)) (hk : k < 64) : (own_sh s l).toInt = s.toInt / (2 ^ k : Nat) := by
  have hl := own_lk h hk
  have r := rng64 s
  rcases Nat.eq_zero_or_pos k with h0 | h0
  · subst h0
    have e : l = 0 := Int32.toInt_inj.mp h
    subst e
    unfold own_sh
    have : ((s.toUInt64 >>> ((0 : Int32) &&& 0x3f).toInt64.toUInt64).toInt64) = s := by
      apply Int64.toBitVec_inj.mp
      show s.toBitVec >>> 0 = s.toBitVec
      simp
    rw [this]; simp
  · unfold own_sh
    rw [c_lushr s l k hl h0]
    have e : s.toInt % 18446744073709551616 = s.toInt := Int.emod_eq_of_lt hs (by omega)
    rw [e]
theorem own_shl_v {s : Int64} {l : Int32} {k : Nat} (hs : 0 ≤ s.toInt) (h : l.toInt = (k : Int)) (hk : k < 64) (hb : s.toInt * (2 ^ k : Nat) < 9223372036854775808) : (own_shl s l).toInt = s.toInt * (2 ^ k : Nat) := by
  have h1 := c_lshl s l k (own_lk h hk)
  have r := rng64 (own_shl s l)
  unfold own_shl at *
  have h0 : 0 ≤ s.toInt * (2 ^ k : Nat) := Int.mul_nonneg hs (Int.natCast_nonneg _)
  omega
theorem own_cnt_b (q : Int32) : 0 ≤ (own_cnt q).toInt ∧ (own_cnt q).toInt < 4294967296 := by
  have h := c_maskL ((q ^^^ (-2147483648 : Int32)).toInt64) 4294967295 32 (by decide) (by decide)
  unfold own_cnt
  omega
theorem own_start_v {l q : Int32} {k : Nat} (h : l.toInt = (k : Int)) (hk : k < 64) : ∃ c : Nat, c < 4294967296 ∧ (own_start l q).toInt = ((c / 2 ^ k * 2 ^ k : Nat) : Int) := by
  have hb := own_cnt_b q
  obtain ⟨c, hc⟩ : ∃ c : Nat, (own_cnt q).toInt = (c : Int) := ⟨(own_cnt q).toInt.toNat, by omega⟩
  refine ⟨c, by omega, ?_⟩
  have h1 := own_sh_v (s := own_cnt q) hb.1 h hk
  rw [hc] at h1
  have h2 : (own_sh (own_cnt q) l).toInt = ((c / 2 ^ k : Nat) : Int) := by rw [h1]; norm_cast
  have h3 : c / 2 ^ k * 2 ^ k ≤ c := Nat.div_mul_le_self _ _
  have h4 : ((c / 2 ^ k : Nat) : Int) * ((2 ^ k : Nat) : Int) = ((c / 2 ^ k * 2 ^ k : Nat) : Int) := by norm_cast
  have h5 : (own_sh (own_cnt q) l).toInt * ((2 ^ k : Nat) : Int) < 9223372036854775808 := by
    rw [h2, h4]
    generalize c / 2 ^ k * 2 ^ k = z at h3
    omega
  unfold own_start
  rw [own_shl_v (by rw [h2]; exact Int.natCast_nonneg _) h hk h5, h2, h4]
theorem own_holds_v {lv : Int32} {sv s : Int64} {k a b : Nat} (h : lv.toInt = (k : Int)) (hk : k < 64) (ha : sv.toInt = (a : Int)) (hb : s.toInt = (b : Int)) : own_holds lv sv s ↔ b / 2 ^ k = a / 2 ^ k := by
  have h1 := own_sh_v (s := sv) (by omega) h hk
  have h2 := own_sh_v (s := s) (by omega) h hk
  unfold own_holds
  rw [← Int64.toInt_inj, h1, h2, ha, hb]
  norm_cast
theorem own_bit (b k : Nat) : b &&& 2 ^ k = 0 ↔ b / 2 ^ k % 2 = 0 := by
  constructor
  · intro h
    have h1 : (b &&& 2 ^ k).testBit k = false := by rw [h]; simp
    rw [Nat.testBit_and, Nat.testBit_two_pow] at h1
    simp only [decide_true, Bool.and_true] at h1
    rw [Nat.testBit_eq_decide_div_mod_eq] at h1
    have h2 := of_decide_eq_false h1
    omega
  · intro h
    apply Nat.eq_of_testBit_eq
    intro i
    rw [Nat.testBit_and, Nat.testBit_two_pow]
    by_cases hi : k = i
    · subst hi
      rw [Nat.testBit_eq_decide_div_mod_eq, h]; simp
    · simp [hi]
theorem own_xor0 {a b : Nat} (h : a ^^^ b = 0) : a = b := by
  apply Nat.eq_of_testBit_eq
  intro i
  have h1 : (a ^^^ b).testBit i = false := by rw [h]; simp
  rw [Nat.testBit_xor] at h1
  cases ha : a.testBit i <;> cases hb : b.testBit i <;> simp [ha, hb] at h1 ⊢
theorem own_low_v {lv : Int32} {s : Int64} {k b : Nat} (h : lv.toInt = (k : Int) + 1) (hk : k < 62) (hb : s.toInt = (b : Int)) : own_low lv s ↔ b / 2 ^ k % 2 = 0 := by
  have h1 : (lv - (1 : Int32)).toInt = (k : Int) := by
    have := c_isub lv 1
    have e1 : (1 : Int32).toInt = 1 := rfl
    have r := rng32 (lv - 1)
    omega
  have h2 : (own_shl 1 (lv - 1)).toInt = ((2 ^ k : Nat) : Int) := by
    have hp : (2 : Nat) ^ k < 2 ^ 62 := Nat.pow_lt_pow_right (by decide) hk
    have e1 : (1 : Int64).toInt = 1 := rfl
    rw [own_shl_v (by decide) h1 (by omega) (by rw [e1]; omega), e1]; simp
  have hp : (2 : Nat) ^ k < 4611686018427387904 := Nat.pow_lt_pow_right (by decide) hk
  have h3 : (own_shl 1 (lv - 1)).toBitVec.toNat = 2 ^ k := by
    have h4 : (own_shl 1 (lv - 1)).toBitVec.toInt = ((2 ^ k : Nat) : Int) := h2
    rw [BitVec.toInt_eq_toNat_cond] at h4
    have := (own_shl 1 (lv - 1)).toBitVec.isLt
    generalize 2 ^ k = P at h4 hp
    split at h4 <;> omega
  have h5 : s.toBitVec.toNat = b := by
    have h4 : s.toBitVec.toInt = (b : Int) := hb
    rw [BitVec.toInt_eq_toNat_cond] at h4
    have := s.toBitVec.isLt
    split at h4 <;> omega
  unfold own_low
  have key : (s &&& own_shl 1 (lv - 1)) = 0 ↔ b &&& 2 ^ k = 0 := by
    rw [← Int64.toBitVec_inj, ← BitVec.toNat_inj]
    show (s.toBitVec &&& (own_shl 1 (lv - 1)).toBitVec).toNat = 0 ↔ _
    rw [BitVec.toNat_and, h3, h5]
  rw [← own_bit]
  exact key
theorem own_xor_hi {a b k : Nat} (h : a ^^^ b < 2 ^ k) : a / 2 ^ k = b / 2 ^ k := by
  have h1 : (a ^^^ b) >>> k = 0 := by rw [Nat.shiftRight_eq_div_pow]; exact Nat.div_eq_of_lt h
  rw [Nat.shiftRight_xor_distrib] at h1
  have h2 := own_xor0 h1
  rwa [Nat.shiftRight_eq_div_pow, Nat.shiftRight_eq_div_pow] at h2
theorem own_xor_bit {a b k : Nat} (h1 : 2 ^ k ≤ a ^^^ b) (h2 : a ^^^ b < 2 ^ (k + 1)) : a / 2 ^ k % 2 ≠ b / 2 ^ k % 2 := by
  have h3 : (a ^^^ b) / 2 ^ k = 1 := by
    apply Nat.div_eq_of_lt_le
    · simpa using h1
    · rw [Nat.pow_succ] at h2; omega
  have h4 : a / 2 ^ k ^^^ b / 2 ^ k = 1 := by
    rw [← Nat.shiftRight_eq_div_pow, ← Nat.shiftRight_eq_div_pow, ← Nat.shiftRight_xor_distrib, Nat.shiftRight_eq_div_pow, h3]
  have h5 := nx2 (a / 2 ^ k) (b / 2 ^ k)
  rw [h4] at h5
  omega
theorem own_div_up {a b i j : Nat} (h : a / 2 ^ i = b / 2 ^ i) (hij : i ≤ j) : a / 2 ^ j = b / 2 ^ j := by
  obtain ⟨d, rfl⟩ := Nat.exists_eq_add_of_le hij
  rw [Nat.pow_add, ← Nat.div_div_eq_div_mul, ← Nat.div_div_eq_div_mul, h]

/-- the level at which two starts part -/
theorem own_part {i j a b k : Nat} (ha : ∃ c, a = c / 2 ^ i * 2 ^ i) (hb : ∃ c, b = c / 2 ^ j * 2 ^ j) (n1 : ¬ (j < i ∧ b / 2 ^ i = a / 2 ^ i)) (n2 : ¬ (i = j ∧ a = b)) (n3 : ¬ (i < j ∧ a / 2 ^ j = b / 2 ^ j)) :
    a ≠ b ∧ (2 ^ k ≤ b ^^^ a → b ^^^ a < 2 ^ (k + 1) → i < k + 1 ∧ j < k + 1 ∧ a / 2 ^ (k + 1) = b / 2 ^ (k + 1) ∧ a / 2 ^ k % 2 ≠ b / 2 ^ k % 2) := by
  have hne : a ≠ b := by
    intro e
    subst e
    rcases Nat.lt_trichotomy i j with h | h | h
    · exact n3 ⟨h, rfl⟩
    · exact n2 ⟨h, rfl⟩
    · exact n1 ⟨h, rfl⟩
  refine ⟨hne, fun h1 h2 => ?_⟩
  have e1 := own_xor_hi h2
  have e2 := own_xor_bit h1 h2
  have al : ∀ {c d m : Nat}, (∃ z, c = z / 2 ^ m * 2 ^ m) → (∃ z, d = z / 2 ^ m * 2 ^ m) → c / 2 ^ m = d / 2 ^ m → c = d := by
    intro c d m hc hd h
    obtain ⟨z, rfl⟩ := hc
    obtain ⟨y, rfl⟩ := hd
    have hp : 0 < 2 ^ m := Nat.pow_pos (by decide)
    rw [Nat.mul_div_cancel _ hp, Nat.mul_div_cancel _ hp] at h
    rw [h]
  have hi : i < k + 1 := by
    refine Classical.byContradiction fun q => ?_
    have q1 : a / 2 ^ i = b / 2 ^ i := (own_div_up e1 (by omega)).symm
    rcases Nat.lt_trichotomy i j with h | h | h
    · exact n3 ⟨h, own_div_up q1 (by omega)⟩
    · subst h; exact hne (al ha hb q1)
    · exact n1 ⟨h, q1.symm⟩
  have hj : j < k + 1 := by
    refine Classical.byContradiction fun q => ?_
    have q1 : a / 2 ^ j = b / 2 ^ j := (own_div_up e1 (by omega)).symm
    rcases Nat.lt_trichotomy i j with h | h | h
    · exact n3 ⟨h, q1⟩
    · subst h; exact hne (al ha hb q1)
    · exact n1 ⟨h, (own_div_up q1 (by omega)).symm⟩
  exact ⟨hi, hj, e1.symm, fun q => e2 q.symm⟩
theorem own_us {x v : Int32} (k : Nat) {q : Int32} (hq : q.toBitVec.toNat % 32 = k) (h0 : 0 < k) (hv : v = ((x.toUInt32 >>> (q &&& 31).toUInt32).toInt32)) (hx : 0 ≤ x.toInt) : v.toInt = x.toInt / (2 ^ k : Nat) := by
  rw [hv, c_iushr x q k hq h0]
  have r := rng32 x
  rw [Int.emod_eq_of_lt hx (by omega)]
/-- what numberOfLeadingZeros leaves: k is the place of the highest bit -/
def own_nz (q r : Int32) : Prop := ∃ k : Nat, k ≤ 31 ∧ r.toInt = 31 - (k : Int) ∧ ((2 ^ k : Nat) : Int) ≤ q.toInt % 4294967296 ∧ q.toInt % 4294967296 < ((2 ^ (k + 1) : Nat) : Int)
theorem own_nzF {q x n : Int32} (sh : Nat) (hs : sh ≤ 30) (hn : n.toInt = 31 - (sh : Int)) (h1 : x.toInt * ((2 ^ sh : Nat) : Int) ≤ q.toInt) (h2 : q.toInt < (x.toInt + 1) * ((2 ^ sh : Nat) : Int)) (hx : 1 ≤ x.toInt ∧ x.toInt < 4) : own_nz q (n - ((x.toUInt32 >>> ((1 : Int32) &&& 31).toUInt32).toInt32)) := by
  have e := own_us (x := x) (v := ((x.toUInt32 >>> ((1 : Int32) &&& 31).toUInt32).toInt32)) 1 (q := 1) (by decide) (by decide) rfl (by omega)
  generalize ((x.toUInt32 >>> ((1 : Int32) &&& 31).toUInt32).toInt32) = y at *
  have e2 := c_isub n y
  have r1 := rng32 (n - y)
  have r2 := rng32 q
  have hp : 0 < (2 ^ sh : Nat) := Nat.pow_pos (by decide)
  have hq0 : 0 ≤ q.toInt := Int.le_trans (Int.mul_nonneg (by omega) (by omega)) h1
  have hm : q.toInt % 4294967296 = q.toInt := Int.emod_eq_of_lt hq0 (by omega)
  have hx3 : x.toInt = 1 ∨ x.toInt = 2 ∨ x.toInt = 3 := by omega
  rcases hx3 with h | h | h
  · refine ⟨sh, by omega, by omega, ?_, ?_⟩
    · rw [hm]; rw [h] at h1; omega
    · rw [hm, Nat.pow_succ]; rw [h] at h2; omega
  · refine ⟨sh + 1, by omega, by omega, ?_, ?_⟩
    · rw [hm, Nat.pow_succ]; rw [h] at h1; omega
    · rw [hm, Nat.pow_succ, Nat.pow_succ]; rw [h] at h2; omega
  · refine ⟨sh + 1, by omega, by omega, ?_, ?_⟩
    · rw [hm, Nat.pow_succ]; rw [h] at h1; omega
    · rw [hm, Nat.pow_succ, Nat.pow_succ]; rw [h] at h2; omega
theorem own_nzN {q : Int32} (h1 : ¬ (0 : Int32) < q) (h0 : ¬ q = 0) : own_nz q 0 := by
  have r := rng32 q
  have hn : q.toInt ≠ 0 := fun e => h0 (Int32.toInt_inj.mp e)
  rw [Int32.lt_iff_toInt_lt] at h1
  have e0 : (0 : Int32).toInt = 0 := rfl
  refine ⟨31, by decide, rfl, ?_, ?_⟩
  · show (2147483648 : Int) ≤ _
    omega
  · show _ < (4294967296 : Int)
    omega
def own_nzL (z : Int64) (r : Int32) : Prop := ∃ k : Nat, k ≤ 31 ∧ r.toInt = 63 - (k : Int) ∧ ((2 ^ k : Nat) : Int) ≤ z.toInt ∧ z.toInt < ((2 ^ (k + 1) : Nat) : Int)
theorem own_hi0 {z : Int64} {v : Int32} (hv : v = (((z.toUInt64 >>> ((32 : Int32) &&& 0x3f).toInt64.toUInt64).toInt64).toInt32)) (hz : 0 < z.toInt ∧ z.toInt < 4294967296) : v = 0 := by
  have h1 : (own_sh z 32).toInt = z.toInt / (2 ^ 32 : Nat) := own_sh_v (by omega) rfl (by decide)
  have h2 : (own_sh z 32).toInt = 0 := by rw [h1]; exact Int.ediv_eq_zero_of_lt (by omega) (by show _ < (4294967296 : Int); omega)
  have h3 : own_sh z 32 = 0 := Int64.toInt_inj.mp h2
  rw [hv]
  have h4 : ((z.toUInt64 >>> ((32 : Int32) &&& 0x3f).toInt64.toUInt64).toInt64) = 0 := h3
  rw [h4]; rfl
theorem own_lo {z : Int64} (hz : 0 < z.toInt ∧ z.toInt < 4294967296) : ¬ z.toInt32 = 0 := by
  intro h
  have h1 := c_l2i z
  rw [h] at h1
  have e0 : (0 : Int32).toInt = 0 := rfl
  omega
theorem own_nzLof {z : Int64} {r : Int32} (hz : 0 < z.toInt ∧ z.toInt < 4294967296) (h : own_nz z.toInt32 r) : own_nzL z ((32 : Int32) + r) := by
  obtain ⟨k, h0, h1, h2, h3⟩ := h
  have h4 := c_l2i z
  have h5 : z.toInt32.toInt % 4294967296 = z.toInt := by
    have := rng32 z.toInt32
    omega
  have h6 := c_iadd 32 r
  have e0 : (32 : Int32).toInt = 32 := rfl
  have r1 := rng32 (32 + r)
  exact ⟨k, h0, by omega, h5 ▸ h2, h5 ▸ h3⟩
def own_lh (a b : Int64) (r : Int32) : Prop := ∃ k : Nat, k ≤ 31 ∧ r.toInt = (k : Int) + 1 ∧ ((2 ^ k : Nat) : Int) ≤ (a ^^^ b).toInt ∧ (a ^^^ b).toInt < ((2 ^ (k + 1) : Nat) : Int)
theorem own_lhOf {a b : Int64} {r : Int32} (h : own_nzL (a ^^^ b) r) : own_lh a b ((64 : Int32) - r) := by
  obtain ⟨k, h0, h1, h2, h3⟩ := h
  have h6 := c_isub 64 r
  have e0 : (64 : Int32).toInt = 64 := rfl
  have r1 := rng32 (64 - r)
  exact ⟨k, h0, by omega, h2, h3⟩
def own_al (l : Int32) (s : Int64) : Prop := ∃ i c : Nat, i ≤ 32 ∧ c < 4294967296 ∧ l.toInt = (i : Int) ∧ s.toInt = ((c / 2 ^ i * 2 ^ i : Nat) : Int)
theorem own_al_of {l q : Int32} (h : 0 ≤ l.toInt ∧ l.toInt ≤ 32) : own_al l (own_start l q) := by
  obtain ⟨i, hi⟩ : ∃ i : Nat, l.toInt = (i : Int) := ⟨l.toInt.toNat, by omega⟩
  obtain ⟨c, hc, e⟩ := own_start_v (q := q) hi (by omega)
  exact ⟨i, c, by omega, hc, hi, e⟩
theorem own_toNat {s : Int64} {b : Nat} (hb : s.toInt = (b : Int)) : s.toBitVec.toNat = b := by
  have h4 : s.toBitVec.toInt = (b : Int) := hb
  rw [BitVec.toInt_eq_toNat_cond] at h4
  have := s.toBitVec.isLt
  split at h4 <;> omega
theorem own_xorI {s z : Int64} {a b : Nat} (ha : s.toInt = (a : Int)) (hb : z.toInt = (b : Int)) (la : a < 4294967296) (lb : b < 4294967296) : (s ^^^ z).toInt = ((a ^^^ b : Nat) : Int) := by
  have h1 := own_toNat ha
  have h2 := own_toNat hb
  have h3 : (s ^^^ z).toBitVec.toNat = a ^^^ b := by
    show (s.toBitVec ^^^ z.toBitVec).toNat = _
    rw [BitVec.toNat_xor, h1, h2]
  have h4 : a ^^^ b < 2 ^ 32 := Nat.xor_lt_two_pow la lb
  show (s ^^^ z).toBitVec.toInt = _
  rw [BitVec.toInt_eq_toNat_cond, h3]
  split <;> omega
theorem own_forkF {la lv : Int32} {sa sb : Int64} (ha : own_al la sa) (hb : own_al lv sb) (n1 : ¬ own_wid la sa lv sb) (n2 : ¬ (la = lv ∧ sa = sb)) (n3 : ¬ own_wid lv sb la sa) :
    (0 < (sb ^^^ sa).toInt ∧ (sb ^^^ sa).toInt < 4294967296) ∧ ∀ r, own_lh sb sa r → own_wid r (own_shl (own_sh sb r) r) la sa ∧ own_wid r (own_shl (own_sh sb r) r) lv sb ∧ (own_low r sa → ¬ own_low r sb) ∧ (¬ own_low r sa → own_low r sb) := by
  obtain ⟨i, c, hi, hc, e1, e2⟩ := ha
  obtain ⟨j, d, hj, hd, f1, f2⟩ := hb
  obtain ⟨a, rfl'⟩ : ∃ a, a = c / 2 ^ i * 2 ^ i := ⟨_, rfl⟩
  obtain ⟨b, rfl''⟩ : ∃ b, b = d / 2 ^ j * 2 ^ j := ⟨_, rfl⟩
  have lac : a < 4294967296 := by rw [rfl']; exact Nat.lt_of_le_of_lt (Nat.div_mul_le_self _ _) hc
  have lbd : b < 4294967296 := by rw [rfl'']; exact Nat.lt_of_le_of_lt (Nat.div_mul_le_self _ _) hd
  rw [← rfl'] at e2
  rw [← rfl''] at f2
  have hlt : ∀ {u v : Int32} {x y : Nat}, u.toInt = (x : Int) → v.toInt = (y : Int) → (u < v ↔ x < y) := fun h1 h2 => by
    rw [Int32.lt_iff_toInt_lt, h1, h2]; omega
  have m1 : ¬ (j < i ∧ b / 2 ^ i = a / 2 ^ i) := fun q => n1 ⟨(hlt f1 e1).mpr q.1, (own_holds_v e1 (by omega) e2 f2).mpr q.2⟩
  have m2 : ¬ (i = j ∧ a = b) := fun q => n2 ⟨Int32.toInt_inj.mp (by rw [e1, f1, q.1]), Int64.toInt_inj.mp (by rw [e2, f2, q.2])⟩
  have m3 : ¬ (i < j ∧ a / 2 ^ j = b / 2 ^ j) := fun q => n3 ⟨(hlt e1 f1).mpr q.1, (own_holds_v f1 (by omega) f2 e2).mpr q.2⟩
  have hx := own_xorI f2 e2 lbd lac
  have hx32 : b ^^^ a < 2 ^ 32 := Nat.xor_lt_two_pow lbd lac
  have hne : a ≠ b := (own_part (k := 0) ⟨c, rfl'⟩ ⟨d, rfl''⟩ m1 m2 m3).1
  have hx0 : b ^^^ a ≠ 0 := fun q => hne (own_xor0 q).symm
  refine ⟨by rw [hx]; omega, fun r hr => ?_⟩
  obtain ⟨k, h0, h1, h2, h3⟩ := hr
  rw [hx] at h2 h3
  have g2 : 2 ^ k ≤ b ^^^ a := by exact_mod_cast h2
  have g3 : b ^^^ a < 2 ^ (k + 1) := by exact_mod_cast h3
  obtain ⟨p1, p2, p3, p4⟩ := (own_part (k := k) ⟨c, rfl'⟩ ⟨d, rfl''⟩ m1 m2 m3).2 g2 g3
  have hr1 : r.toInt = ((k + 1 : Nat) : Int) := by rw [h1]; omega
  have hs : (own_sh sb r).toInt = ((b / 2 ^ (k + 1) : Nat) : Int) := by rw [own_sh_v (by omega) hr1 (by omega), f2]; norm_cast
  have hle : b / 2 ^ (k + 1) * 2 ^ (k + 1) ≤ b := Nat.div_mul_le_self _ _
  have hm : ((b / 2 ^ (k + 1) : Nat) : Int) * ((2 ^ (k + 1) : Nat) : Int) = ((b / 2 ^ (k + 1) * 2 ^ (k + 1) : Nat) : Int) := by norm_cast
  have hsr : (own_shl (own_sh sb r) r).toInt = ((b / 2 ^ (k + 1) * 2 ^ (k + 1) : Nat) : Int) := by
    rw [own_shl_v (by rw [hs]; exact Int.natCast_nonneg _) hr1 (by omega) (by rw [hs, hm]; generalize b / 2 ^ (k + 1) * 2 ^ (k + 1) = z at hle; omega), hs, hm]
  have hp : 0 < 2 ^ (k + 1) := Nat.pow_pos (by decide)
  have hsd : b / 2 ^ (k + 1) * 2 ^ (k + 1) / 2 ^ (k + 1) = b / 2 ^ (k + 1) := Nat.mul_div_cancel _ hp
  have la1 := own_low_v (s := sa) h1 (by omega) e2
  have lb1 := own_low_v (s := sb) h1 (by omega) f2
  refine ⟨⟨(hlt e1 hr1).mpr p1, (own_holds_v hr1 (by omega) hsr e2).mpr (by rw [hsd]; exact p3)⟩, ⟨(hlt f1 hr1).mpr p2, (own_holds_v hr1 (by omega) hsr f2).mpr (by rw [hsd])⟩, fun q q2 => ?_, fun q => ?_⟩
  · exact p4 ((la1.mp q).trans (lb1.mp q2).symm)
  · refine lb1.mpr ?_
    have q1 : ¬ a / 2 ^ k % 2 = 0 := fun z => q (la1.mpr z)
    omega

theorem own_bx {Z : State} {args : Array Value} {a : Addr} {cl : Cell} (ev : (Jvm.Term.static "java/lang/Integer$IntegerCache" "cache" "[Ljava/lang/Integer;").eval args Z none [] Z = some (.ref a)) (A : Arr Z Z.heap a cl (.object "java/lang/Integer")) (hl : (Term.length (Jvm.Term.static "java/lang/Integer$IntegerCache" "cache" "[Ljava/lang/Integer;")).eval args Z none [] Z = some (.int (256 : Int32)))
    (h : ((Jvm.Cond.all (Jvm.Term.static "java/lang/Integer$IntegerCache" "cache" "[Ljava/lang/Integer;") (Jvm.Cond.and (Jvm.Cond.exactly (Jvm.Term.elem (Jvm.Term.static "java/lang/Integer$IntegerCache" "cache" "[Ljava/lang/Integer;") (Jvm.Term.index (0 : Nat))) "java/lang/Integer") (Jvm.Cond.eq (Jvm.Term.field (Jvm.Term.elem (Jvm.Term.static "java/lang/Integer$IntegerCache" "cache" "[Ljava/lang/Integer;") (Jvm.Term.index (0 : Nat))) "java/lang/Integer" "value" "I") (Jvm.Term.sub (Jvm.Term.index (0 : Nat)) (Jvm.Term.int (128 : Int32))))))).value args Z none Z [] = some true) : Bxs Z a cl "java/lang/Integer" "I" (256 : Int32) (fun j => .int (j - (128 : Int32))) := by
  have hA := IntBox.arrayAt_of A.1 A.2.1 A.2.2
  have hlt : cl.slots.size < 2 ^ 31 := by
    by_cases hq : cl.slots.size < 2 ^ 31
    · exact hq
    · simp [Term.eval] at hl ev
      simp [ev, hA, hq] at hl
  have e := len_f (t := Jvm.Term.static "java/lang/Integer$IntegerCache" "cache" "[Ljava/lang/Integer;") (args := args) (first := Z) (o := none) (idx := []) ev hA hlt
  have e2 : cl.slots.size.toInt32 = (256 : Int32) := by
    exact Value.int.inj (Option.some.inj (e.symm.trans hl))
  exact Bxs.start (fun idx => ev) A hlt e2 (by decide) h (fun X j hj hx => eqv_i (by
    have h1 : (Term.index 0).eval args Z none [j.toNatClampNeg] Z = some (.int j) := idx_at hj
    have h2 : (Term.int (128 : Int32)).eval args Z none [j.toNatClampNeg] Z = some (.int 128) := Term.int_eval _
    rw [Term.eval, h1, h2]; rfl) hx)

def Amb (Z : State) (o_cache : Addr) (ccl : Cell) : Prop := Sta Z Z.heap "java/lang/Integer$IntegerCache" "high" "I" (.int (127 : Int32)) ∧ Sta Z Z.heap "java/lang/Integer$IntegerCache" "cache" "[Ljava/lang/Integer;" (.ref o_cache) ∧ (Bxs Z o_cache ccl "java/lang/Integer" "I" (256 : Int32) (fun j => .int (j - (128 : Int32)))) ∧ True
theorem Amb.a0 {Z : State} {o_cache : Addr} {ccl : Cell} (A : Amb Z o_cache ccl) : Sta Z Z.heap "java/lang/Integer$IntegerCache" "high" "I" (.int (127 : Int32)) := A.1
theorem Amb.a1 {Z : State} {o_cache : Addr} {ccl : Cell} (A : Amb Z o_cache ccl) : Sta Z Z.heap "java/lang/Integer$IntegerCache" "cache" "[Ljava/lang/Integer;" (.ref o_cache) := A.2.1
theorem Amb.bx {Z : State} {o_cache : Addr} {ccl : Cell} (A : Amb Z o_cache ccl) : Bxs Z o_cache ccl "java/lang/Integer" "I" (256 : Int32) (fun j => .int (j - (128 : Int32))) := A.2.2.1

abbrev my8 : MethodName := (⟨"java/lang/Integer", "toUnsignedLong", "(I)J"⟩ : MethodName)
theorem d8_2 : decode jdk_33_method_42_code 2 = .ok (.ldc2_w 262, 3) := by decide +kernel
theorem d8_6 : decode jdk_33_method_42_code 6 = .ok (.lreturn, 1) := by decide +kernel
theorem e8_0_2 : own_dec jdk_33_method_42_code 0 [(.iload_n 0, 1), (.i2l, 1)] = true := by decide +kernel
theorem e8_5_1 : own_dec jdk_33_method_42_code 5 [(.land, 1)] = true := by decide +kernel
theorem pn_0 : plainName "java/lang/Integer" = true := by first | (simp [plainName, overriddenIn]; done) | decide +kernel
def Q8 (Z : State) (q : Int32) (h0 : Heap) (n0 : Nat) (v : Option Value) (h : Heap) (L : List Loc) : Prop := v = some (.long ((q.toInt64) &&& (4294967295 : Int64))) ∧ Fr n0 L ∧ h = h0
set_option maxRecDepth 65536 in
set_option maxHeartbeats 40000000 in
theorem rm8 (l : Launch) (Z : State) (a0 : Array Value) (hw : OW a0 Z) (ws : List Jvm.Cond) (q : Int32) (h0 : Heap) (n0 : Nat) (Z0 : n0 ≤ h0.size)  :
    own_Met l my8 jdk_33_method_42_code 1 (some .long) ws (own_rm 0 0 0 0) #[(.int q)] Z h0 (Q8 Z q h0 n0) 0 0 := by
  refine own_body (plainFor_of_name pn_0) (fun m => by first | (simp [entryFrame, mkF, argsToLocals, Value.category]; done) | rfl) (Ls := #[.val (.int q)]) fun p e s m below meth c s₁ X0 hx hby hml hZ e0 hown hnm hlk hrt => ?_
  have N0 := Fr.nil n0
  refine own_ru 2 [(.long (q.toInt64))] X0 hx hby e8_0_2 rfl rfl ?_
  refine own_st 5 [(.long (4294967295 : Int64)), (.long (q.toInt64))] (X0.ldc2Long hx hown (mvT hZ (wd38 hw)) (g := (mkF m 2 #[.val (.int q)] [(.long (q.toInt64))])) rfl (hb hby d8_2)) ?_
  refine own_ru 6 [(.long ((q.toInt64) &&& (4294967295 : Int64)))] X0 hx hby e8_5_1 rfl rfl ?_
  have hq1 : Q8 Z q h0 n0 (some (.long ((q.toInt64) &&& (4294967295 : Int64)))) h0 _ := ⟨rfl, N0, rfl⟩
  exact own_retJ X0 hx hlk hrt (hb hby d8_6) e0 hq1 (by decide) (by decide)
abbrev my7 : MethodName := (⟨"com/example/mullion/mullion/service/DyadicTrie", "counted", "(I)J"⟩ : MethodName)
theorem d7_1 : decode prog_41_method_11_code 1 = .ok (.ldc 86, 2) := by decide +kernel
theorem d7_4 : decode prog_41_method_11_code 4 = .ok (.invokestatic 87, 3) := by decide +kernel
theorem d7_7 : decode prog_41_method_11_code 7 = .ok (.lreturn, 1) := by decide +kernel
theorem e7_0_1 : own_dec prog_41_method_11_code 0 [(.iload_n 0, 1)] = true := by decide +kernel
theorem e7_3_1 : own_dec prog_41_method_11_code 3 [(.ixor, 1)] = true := by decide +kernel
theorem pn_1 : plainName "com/example/mullion/mullion/service/DyadicTrie" = true := by first | (simp [plainName, overriddenIn]; done) | decide +kernel
theorem pd_0 : parseMethodDescriptor "(I)J" = some ⟨[.int], some .long⟩ := by decide +kernel
def Q7 (Z : State) (q : Int32) (h0 : Heap) (n0 : Nat) (v : Option Value) (h : Heap) (L : List Loc) : Prop := v = some (.long (own_cnt q)) ∧ Fr n0 L ∧ h = h0
set_option maxRecDepth 65536 in
set_option maxHeartbeats 40000000 in
theorem rm7 (l : Launch) (Z : State) (a0 : Array Value) (hw : OW a0 Z) (ws : List Jvm.Cond) (q : Int32) (h0 : Heap) (n0 : Nat) (Z0 : n0 ≤ h0.size)  :
    own_Met l my7 prog_41_method_11_code 1 (some .long) ws (own_rm 1 0 0 12) #[(.int q)] Z h0 (Q7 Z q h0 n0) 0 0 := by
  refine own_body (plainFor_of_name pn_1) (fun m => by first | (simp [entryFrame, mkF, argsToLocals, Value.category]; done) | rfl) (Ls := #[.val (.int q)]) fun p e s m below meth c s₁ X0 hx hby hml hZ e0 hown hnm hlk hrt => ?_
  have N0 := Fr.nil n0
  refine own_ru 1 [(.int q)] X0 hx hby e7_0_1 rfl rfl ?_
  refine own_st 3 [(.int (-2147483648 : Int32)), (.int q)] (X0.ldcInt hx hown (mvT hZ (wd34 hw)) (g := (mkF m 1 #[.val (.int q)] [(.int q)])) rfl (hb hby d7_1)) ?_
  refine own_ru 4 [(.int (q ^^^ (-2147483648 : Int32)))] X0 hx hby e7_3_1 rfl rfl ?_
  refine own_cS X0 hx hZ hown (wd35 hw) (wd36 hw) (by decide) (wd37 hw) (wd18 hw) (rm8 l Z a0 hw [] (q ^^^ (-2147483648 : Int32)) h0 n0 (by omega) ) e0  [(.int (q ^^^ (-2147483648 : Int32)))] [] 7 0 (hb hby d7_4) rfl (by rw [hml]; rfl) rfl rfl (lenOf pd_0 rfl) rfl (by decide) fun v2 T2 Lc2 X2 hQ2 => ?_
  obtain ⟨rfl, N2q, e2⟩ := hQ2
  have N2 := Fr.app N0 N2q
  have hq3 : Q7 Z q h0 n0 (some (.long (((q ^^^ (-2147483648 : Int32)).toInt64) &&& (4294967295 : Int64)))) h0 _ := ⟨rfl, N2, rfl⟩
  exact own_retJ X2 hx hlk hrt (hb hby d7_7) e2 hq3 (by decide) (by decide)
abbrev my6 : MethodName := (⟨"com/example/mullion/mullion/service/DyadicTrie", "startOf", "(II)J"⟩ : MethodName)
theorem d6_1 : decode prog_41_method_10_code 1 = .ok (.invokestatic 7, 3) := by decide +kernel
theorem d6_5 : decode prog_41_method_10_code 5 = .ok (.lushr, 1) := by decide +kernel
theorem d6_7 : decode prog_41_method_10_code 7 = .ok (.lshl, 1) := by decide +kernel
theorem d6_8 : decode prog_41_method_10_code 8 = .ok (.lreturn, 1) := by decide +kernel
theorem e6_0_1 : own_dec prog_41_method_10_code 0 [(.iload_n 1, 1)] = true := by decide +kernel
theorem e6_4_1 : own_dec prog_41_method_10_code 4 [(.iload_n 0, 1)] = true := by decide +kernel
theorem e6_6_1 : own_dec prog_41_method_10_code 6 [(.iload_n 0, 1)] = true := by decide +kernel
def Q6 (Z : State) (lv : Int32) (q : Int32) (h0 : Heap) (n0 : Nat) (v : Option Value) (h : Heap) (L : List Loc) : Prop := v = some (.long (own_start lv q)) ∧ Fr n0 L ∧ h = h0
set_option maxRecDepth 65536 in
set_option maxHeartbeats 40000000 in
theorem rm6 (l : Launch) (Z : State) (a0 : Array Value) (hw : OW a0 Z) (ws : List Jvm.Cond) (lv : Int32) (q : Int32) (h0 : Heap) (n0 : Nat) (Z0 : n0 ≤ h0.size)  :
    own_Met l my6 prog_41_method_10_code 2 (some .long) ws (own_rm 2 0 0 24) #[(.int lv), (.int q)] Z h0 (Q6 Z lv q h0 n0) 0 0 := by
  refine own_body (plainFor_of_name pn_1) (fun m => by first | (simp [entryFrame, mkF, argsToLocals, Value.category]; done) | rfl) (Ls := #[.val (.int lv), .val (.int q)]) fun p e s m below meth c s₁ X0 hx hby hml hZ e0 hown hnm hlk hrt => ?_
  have N0 := Fr.nil n0
  refine own_ru 1 [(.int q)] X0 hx hby e6_0_1 rfl rfl ?_
  refine own_cS X0 hx hZ hown (wd31 hw) (wd32 hw) (by decide) (wd33 hw) (wd2 hw) (rm7 l Z a0 hw [] q h0 n0 (by omega) ) e0  [(.int q)] [] 4 0 (hb hby d6_1) rfl (by rw [hml]; rfl) rfl rfl (lenOf pd_0 rfl) rfl (by decide) fun v4 T4 Lc4 X4 hQ4 => ?_
  obtain ⟨rfl, N4q, e4⟩ := hQ4
  have N4 := Fr.app N0 N4q
  refine own_ru 5 [(.int lv), (.long (own_cnt q))] X4 hx hby e6_4_1 rfl rfl ?_
  refine own_st 6 [(.long (((own_cnt q).toUInt64 >>> (lv &&& 0x3f).toInt64.toUInt64).toInt64))] (fun t k => XS.lushr X4.here hx rfl (hb hby d6_5) rfl k) ?_
  refine own_ru 7 [(.int lv), (.long (((own_cnt q).toUInt64 >>> (lv &&& 0x3f).toInt64.toUInt64).toInt64))] X4 hx hby e6_6_1 rfl rfl ?_
  refine own_st 8 [(.long ((((own_cnt q).toUInt64 >>> (lv &&& 0x3f).toInt64.toUInt64).toInt64) <<< (lv &&& 0x3f).toInt64))] (fun t k => XS.lshl X4.here hx rfl (hb hby d6_7) rfl k) ?_
  have hq5 : Q6 Z lv q h0 n0 (some (.long ((((own_cnt q).toUInt64 >>> (lv &&& 0x3f).toInt64.toUInt64).toInt64) <<< (lv &&& 0x3f).toInt64))) h0 _ := ⟨rfl, N4, rfl⟩
  exact own_retJ X4 hx hlk hrt (hb hby d6_8) e4 hq5 (by decide) (by decide)
abbrev my23 : MethodName := (⟨"com/example/mullion/mullion/service/DyadicTrieIsEmptyPinLaw", "start", "(II)J"⟩ : MethodName)
theorem d23_1 : decode method_2_code 1 = .ok (.ldc 9, 2) := by decide +kernel
theorem d23_5 : decode method_2_code 5 = .ok (.ldc2_w 10, 3) := by decide +kernel
theorem d23_12 : decode method_2_code 12 = .ok (.lushr, 1) := by decide +kernel
theorem d23_14 : decode method_2_code 14 = .ok (.lshl, 1) := by decide +kernel
theorem d23_15 : decode method_2_code 15 = .ok (.lreturn, 1) := by decide +kernel
theorem e23_0_1 : own_dec method_2_code 0 [(.iload_n 1, 1)] = true := by decide +kernel
theorem e23_3_2 : own_dec method_2_code 3 [(.ixor, 1), (.i2l, 1)] = true := by decide +kernel
theorem e23_8_1 : own_dec method_2_code 8 [(.land, 1)] = true := by decide +kernel
theorem e23_9_3 : own_dec method_2_code 9 [(.lstore_n 2, 1), (.lload_n 2, 1), (.iload_n 0, 1)] = true := by decide +kernel
theorem e23_13_1 : own_dec method_2_code 13 [(.iload_n 0, 1)] = true := by decide +kernel
theorem pn_2 : plainName "com/example/mullion/mullion/service/DyadicTrieIsEmptyPinLaw" = true := by first | (simp [plainName, overriddenIn]; done) | decide +kernel
def Q23 (Z : State) (lv : Int32) (q : Int32) (h0 : Heap) (n0 : Nat) (v : Option Value) (h : Heap) (L : List Loc) : Prop := v = some (.long (own_start lv q)) ∧ Fr n0 L ∧ h = h0
set_option maxRecDepth 65536 in
set_option maxHeartbeats 40000000 in
theorem rm23 (l : Launch) (Z : State) (a0 : Array Value) (hw : OW a0 Z) (ws : List Jvm.Cond) (lv : Int32) (q : Int32) (h0 : Heap) (n0 : Nat) (Z0 : n0 ≤ h0.size)  :
    own_Met l my23 method_2_code 4 (some .long) ws (own_rm 0 0 0 0) #[(.int lv), (.int q)] Z h0 (Q23 Z lv q h0 n0) 0 0 := by
  refine own_body (plainFor_of_name pn_2) (fun m => by first | (simp [entryFrame, mkF, argsToLocals, Value.category]; done) | rfl) (Ls := #[.val (.int lv), .val (.int q), .unset, .unset]) fun p e s m below meth c s₁ X0 hx hby hml hZ e0 hown hnm hlk hrt => ?_
  have N0 := Fr.nil n0
  refine own_ru 1 [(.int q)] X0 hx hby e23_0_1 rfl rfl ?_
  refine own_st 3 [(.int (-2147483648 : Int32)), (.int q)] (X0.ldcInt hx hown (mvT hZ (wd116 hw)) (g := (mkF m 1 #[.val (.int lv), .val (.int q), .unset, .unset] [(.int q)])) rfl (hb hby d23_1)) ?_
  refine own_ru 5 [(.long ((q ^^^ (-2147483648 : Int32)).toInt64))] X0 hx hby e23_3_2 rfl rfl ?_
  refine own_st 8 [(.long (4294967295 : Int64)), (.long ((q ^^^ (-2147483648 : Int32)).toInt64))] (X0.ldc2Long hx hown (mvT hZ (wd117 hw)) (g := (mkF m 5 #[.val (.int lv), .val (.int q), .unset, .unset] [(.long ((q ^^^ (-2147483648 : Int32)).toInt64))])) rfl (hb hby d23_5)) ?_
  refine own_ru 9 [(.long (((q ^^^ (-2147483648 : Int32)).toInt64) &&& (4294967295 : Int64)))] X0 hx hby e23_8_1 rfl rfl ?_
  obtain ⟨v9, hv9⟩ : ∃ z : Int64, z = (((q ^^^ (-2147483648 : Int32)).toInt64) &&& (4294967295 : Int64)) := ⟨_, rfl⟩
  rw [← hv9]
  refine own_rl 12 #[.val (.int lv), .val (.int q), .val (.long v9), .second] [(.int lv), (.long v9)] X0 hx hby e23_9_3 rfl rfl ?_
  refine own_st 13 [(.long ((v9.toUInt64 >>> (lv &&& 0x3f).toInt64.toUInt64).toInt64))] (fun t k => XS.lushr X0.here hx rfl (hb hby d23_12) rfl k) ?_
  refine own_ru 14 [(.int lv), (.long ((v9.toUInt64 >>> (lv &&& 0x3f).toInt64.toUInt64).toInt64))] X0 hx hby e23_13_1 rfl rfl ?_
  refine own_st 15 [(.long (((v9.toUInt64 >>> (lv &&& 0x3f).toInt64.toUInt64).toInt64) <<< (lv &&& 0x3f).toInt64))] (fun t k => XS.lshl X0.here hx rfl (hb hby d23_14) rfl k) ?_
  have hq6 : Q23 Z lv q h0 n0 (some (.long (((v9.toUInt64 >>> (lv &&& 0x3f).toInt64.toUInt64).toInt64) <<< (lv &&& 0x3f).toInt64))) h0 _ := ⟨(by subst hv9; rfl), N0, rfl⟩
  exact own_retJ X0 hx hlk hrt (hb hby d23_15) e0 hq6 (by decide) (by decide)
abbrev my11 : MethodName := (⟨"com/example/mullion/mullion/service/DyadicTrieIsEmptyPinLaw", "same", "(IIII)Z"⟩ : MethodName)
theorem d11_2 : decode method_3_code 2 = .ok (.if_icmp .ne 21, 3) := by decide +kernel
theorem d11_7 : decode method_3_code 7 = .ok (.invokestatic 12, 3) := by decide +kernel
theorem d11_12 : decode method_3_code 12 = .ok (.invokestatic 12, 3) := by decide +kernel
theorem d11_15 : decode method_3_code 15 = .ok (.lcmp, 1) := by decide +kernel
theorem d11_16 : decode method_3_code 16 = .ok (.ifCond .ne 7, 3) := by decide +kernel
theorem d11_20 : decode method_3_code 20 = .ok (.goto 4, 3) := by decide +kernel
theorem d11_24 : decode method_3_code 24 = .ok (.ireturn, 1) := by decide +kernel
theorem e11_0_2 : own_dec method_3_code 0 [(.iload_n 0, 1), (.iload_n 2, 1)] = true := by decide +kernel
theorem e11_5_2 : own_dec method_3_code 5 [(.iload_n 0, 1), (.iload_n 1, 1)] = true := by decide +kernel
theorem e11_10_2 : own_dec method_3_code 10 [(.iload_n 2, 1), (.iload_n 3, 1)] = true := by decide +kernel
theorem e11_19_1 : own_dec method_3_code 19 [(.iconst 1, 1)] = true := by decide +kernel
theorem e11_23_1 : own_dec method_3_code 23 [(.iconst 0, 1)] = true := by decide +kernel
theorem pd_1 : parseMethodDescriptor "(II)J" = some ⟨[.int, .int], some .long⟩ := by decide +kernel
def Q11 (Z : State) (la : Int32) (ca : Int32) (lb : Int32) (cb : Int32) (h0 : Heap) (n0 : Nat) (v : Option Value) (h : Heap) (L : List Loc) : Prop := own_bool (la = lb ∧ own_start la ca = own_start lb cb) v ∧ Fr n0 L ∧ h = h0
set_option maxRecDepth 65536 in
set_option maxHeartbeats 40000000 in
theorem rm11 (l : Launch) (Z : State) (a0 : Array Value) (hw : OW a0 Z) (ws : List Jvm.Cond) (la : Int32) (ca : Int32) (lb : Int32) (cb : Int32) (h0 : Heap) (n0 : Nat) (Z0 : n0 ≤ h0.size)  :
    own_Met l my11 method_3_code 4 (some .boolean) ws (own_rm 1 0 0 17) #[(.int la), (.int ca), (.int lb), (.int cb)] Z h0 (Q11 Z la ca lb cb h0 n0) 0 0 := by
  refine own_body (plainFor_of_name pn_2) (fun m => by first | (simp [entryFrame, mkF, argsToLocals, Value.category]; done) | rfl) (Ls := #[.val (.int la), .val (.int ca), .val (.int lb), .val (.int cb)]) fun p e s m below meth c s₁ X0 hx hby hml hZ e0 hown hnm hlk hrt => ?_
  have N0 := Fr.nil n0
  refine own_ru 2 [(.int lb), (.int la)] X0 hx hby e11_0_2 rfl rfl ?_
  by_cases hc2 : la = lb
  · refine own_kN 5 X0 hx (hb hby d11_2) rfl (teq hc2).2 rfl ?_
    refine own_ru 7 [(.int ca), (.int la)] X0 hx hby e11_5_2 rfl rfl ?_
    refine own_cS X0 hx hZ hown (wd113 hw) (wd114 hw) (by decide) (wd115 hw) (wd58 hw) (rm23 l Z a0 hw [] la ca h0 n0 (by omega) ) e0  [(.int la), (.int ca)] [] 10 0 (hb hby d11_7) rfl (by rw [hml]; rfl) rfl rfl (lenOf pd_1 rfl) rfl (by decide) fun v7 T7 Lc7 X7 hQ7 => ?_
    obtain ⟨rfl, N7q, e7⟩ := hQ7
    have N7 := Fr.app N0 N7q
    refine own_ru 12 [(.int cb), (.int lb), (.long (own_start la ca))] X7 hx hby e11_10_2 rfl rfl ?_
    refine own_cS X7 hx hZ hown (wd113 hw) (wd114 hw) (by decide) (wd115 hw) (wd58 hw) (rm23 l Z a0 hw [] lb cb h0 n0 (by omega) ) e7  [(.int lb), (.int cb)] [(.long (own_start la ca))] 15 2 (hb hby d11_12) rfl (by rw [hml]; rfl) rfl rfl (lenOf pd_1 rfl) rfl (by decide) fun v8 T8 Lc8 X8 hQ8 => ?_
    obtain ⟨rfl, N8q, e8⟩ := hQ8
    have N8 := Fr.app N7 N8q
    refine own_st 16 [(.int (lcmpW (own_start la ca) (own_start lb cb)))] (fun t k => XS.lcmp X8.here hx rfl (hb hby d11_15) rfl k) ?_
    by_cases hc16 : (own_start la ca) = (own_start lb cb)
    · refine own_iN 19 X8 hx (hb hby d11_16) rfl ((if0 _ _).trans (teq ((lw_eq _ _).mpr hc16)).2) rfl ?_
      refine own_ru 20 [(.int (1 : Int32))] X8 hx hby e11_19_1 rfl rfl ?_
      refine own_go 24 X8 hx (hb hby d11_20) (by decide) (by decide) ?_
      have hq9 : Q11 Z la ca lb cb h0 n0 (some (.int (nar .boolean (1 : Int32)))) h0 _ := ⟨Or.inl ⟨rfl, ⟨hc2, hc16⟩⟩, N8, rfl⟩
      exact own_retN X8 hx hlk (t := .boolean) hrt (by simp) (hb hby d11_24) e8 hq9 (by decide) (by decide)
    · refine own_iY 23 X8 hx (hb hby d11_16) rfl ((if0 _ _).trans (feq (fun q => hc16 ((lw_eq _ _).mp q))).2) (by decide) (by decide) ?_
      refine own_ru 24 [(.int (0 : Int32))] X8 hx hby e11_23_1 rfl rfl ?_
      have hq10 : Q11 Z la ca lb cb h0 n0 (some (.int (nar .boolean (0 : Int32)))) h0 _ := ⟨Or.inr ⟨rfl, (fun q => hc16 q.2)⟩, N8, rfl⟩
      exact own_retN X8 hx hlk (t := .boolean) hrt (by simp) (hb hby d11_24) e8 hq10 (by decide) (by decide)
  · refine own_kY 23 X0 hx (hb hby d11_2) rfl (feq hc2).2 (by decide) (by decide) ?_
    refine own_ru 24 [(.int (0 : Int32))] X0 hx hby e11_23_1 rfl rfl ?_
    have hq11 : Q11 Z la ca lb cb h0 n0 (some (.int (nar .boolean (0 : Int32)))) h0 _ := ⟨Or.inr ⟨rfl, (fun q => hc2 q.1)⟩, N0, rfl⟩
    exact own_retN X0 hx hlk (t := .boolean) hrt (by simp) (hb hby d11_24) e0 hq11 (by decide) (by decide)
abbrev my1 : MethodName := (⟨"com/example/mullion/mullion/service/DyadicTrie", "<init>", "()V"⟩ : MethodName)
theorem d1_1 : decode prog_41_method_1_code 1 = .ok (.invokespecial 1, 3) := by decide +kernel
theorem d1_4 : decode prog_41_method_1_code 4 = .ok (.return_, 1) := by decide +kernel
theorem e1_0_1 : own_dec prog_41_method_1_code 0 [(.aload_n 0, 1)] = true := by decide +kernel
def Q1 (Z : State) (a1 : Addr) (h0 : Heap) (n0 : Nat) (v : Option Value) (h : Heap) (L : List Loc) : Prop := v = none ∧ Fr n0 L ∧ h = h0
set_option maxRecDepth 65536 in
set_option maxHeartbeats 40000000 in
theorem rm1 (l : Launch) (Z : State) (a0 : Array Value) (hw : OW a0 Z) (ws : List Jvm.Cond) (a1 : Addr) (h0 : Heap) (n0 : Nat) (Z0 : n0 ≤ h0.size)  :
    own_Met l my1 prog_41_method_1_code 1 none ws (own_rm 1 0 0 12) #[(.ref a1)] Z h0 (Q1 Z a1 h0 n0) 0 0 := by
  refine own_body (plainFor_of_name pn_1) (fun m => by first | (simp [entryFrame, mkF, argsToLocals, Value.category]; done) | rfl) (Ls := #[.val (.ref a1)]) fun p e s m below meth c s₁ X0 hx hby hml hZ e0 hown hnm hlk hrt => ?_
  have N0 := Fr.nil n0
  refine own_ru 1 [(.ref a1)] X0 hx hby e1_0_1 rfl rfl ?_
  refine own_iO X0 hx hZ hown (wd6 hw) (wd7 hw) (wd8 hw) e0 4 0 (by rw [hml]; rfl) rfl (hb hby d1_1) rfl (by decide) rfl (by decide) fun T12 X12 e12 => ?_
  have hq13 : Q1 Z a1 h0 n0 none h0 _ := ⟨rfl, N0, rfl⟩
  exact own_retV X12 hx hlk hrt (hb hby d1_4) e12 hq13 (by decide) (by decide)
abbrev my3 : MethodName := (⟨"com/example/mullion/mullion/service/DyadicTrie", "isEmpty", "()Z"⟩ : MethodName)
theorem d3_1 : decode prog_41_method_3_code 1 = .ok (.getfield 17, 3) := by decide +kernel
theorem d3_4 : decode prog_41_method_3_code 4 = .ok (.ifnonnull 7, 3) := by decide +kernel
theorem d3_8 : decode prog_41_method_3_code 8 = .ok (.goto 4, 3) := by decide +kernel
theorem d3_12 : decode prog_41_method_3_code 12 = .ok (.ireturn, 1) := by decide +kernel
theorem e3_0_1 : own_dec prog_41_method_3_code 0 [(.aload_n 0, 1)] = true := by decide +kernel
theorem e3_7_1 : own_dec prog_41_method_3_code 7 [(.iconst 1, 1)] = true := by decide +kernel
def Q3n (Z : State) (a1 : Addr) (h0 : Heap) (n0 : Nat) (v : Option Value) (h : Heap) (L : List Loc) : Prop := v = some (.int (1 : Int32)) ∧ Fr n0 L ∧ h = h0
set_option maxRecDepth 65536 in
set_option maxHeartbeats 40000000 in
theorem rm3n (l : Launch) (Z : State) (a0 : Array Value) (hw : OW a0 Z) (ws : List Jvm.Cond) (a1 : Addr) (h0 : Heap) (n0 : Nat) (Z0 : n0 ≤ h0.size) (P0 : fl0 Z h0 a1 .null) :
    own_Met l my3 prog_41_method_3_code 1 (some .boolean) ws (own_rm 0 0 0 0) #[(.ref a1)] Z h0 (Q3n Z a1 h0 n0) 0 0 := by
  refine own_body (plainFor_of_name pn_1) (fun m => by first | (simp [entryFrame, mkF, argsToLocals, Value.category]; done) | rfl) (Ls := #[.val (.ref a1)]) fun p e s m below meth c s₁ X0 hx hby hml hZ e0 hown hnm hlk hrt => ?_
  have N0 := Fr.nil n0
  have lt_P0 : @LT.lt Nat _ a1 (Array.size h0) := P0.lt
  refine own_ru 1 [(.ref a1)] X0 hx hby e3_0_1 rfl rfl ?_
  refine own_gF X0 hx hZ hown (host := "") (Or.inl (wd14 hw)) Via.refl e0 P0 4 rfl (hb hby d3_1) rfl fun T14 X14 e14 => ?_
  refine own_st 7 [] (fun t k => XS.ifnonnullNo X14.here hx rfl (hb hby d3_4) rfl k) ?_
  refine own_ru 8 [(.int (1 : Int32))] X14 hx hby e3_7_1 rfl rfl ?_
  refine own_go 12 X14 hx (hb hby d3_8) (by decide) (by decide) ?_
  have hq15 : Q3n Z a1 h0 n0 (some (.int (nar .boolean (1 : Int32)))) h0 _ := ⟨rfl, N0, rfl⟩
  exact own_retN X14 hx hlk (t := .boolean) hrt (by simp) (hb hby d3_12) e14 hq15 (by decide) (by decide)
theorem e3_11_1 : own_dec prog_41_method_3_code 11 [(.iconst 0, 1)] = true := by decide +kernel
def Q3r (Z : State) (a1 : Addr) (rt : Addr) (h0 : Heap) (n0 : Nat) (v : Option Value) (h : Heap) (L : List Loc) : Prop := v = some (.int (0 : Int32)) ∧ Fr n0 L ∧ h = h0
set_option maxRecDepth 65536 in
set_option maxHeartbeats 40000000 in
theorem rm3r (l : Launch) (Z : State) (a0 : Array Value) (hw : OW a0 Z) (ws : List Jvm.Cond) (a1 : Addr) (rt : Addr) (h0 : Heap) (n0 : Nat) (Z0 : n0 ≤ h0.size) (P0 : fl0 Z h0 a1 (.ref rt)) :
    own_Met l my3 prog_41_method_3_code 1 (some .boolean) ws (own_rm 0 0 0 0) #[(.ref a1)] Z h0 (Q3r Z a1 rt h0 n0) 0 0 := by
  refine own_body (plainFor_of_name pn_1) (fun m => by first | (simp [entryFrame, mkF, argsToLocals, Value.category]; done) | rfl) (Ls := #[.val (.ref a1)]) fun p e s m below meth c s₁ X0 hx hby hml hZ e0 hown hnm hlk hrt => ?_
  have N0 := Fr.nil n0
  have lt_P0 : @LT.lt Nat _ a1 (Array.size h0) := P0.lt
  refine own_ru 1 [(.ref a1)] X0 hx hby e3_0_1 rfl rfl ?_
  refine own_gF X0 hx hZ hown (host := "") (Or.inl (wd14 hw)) Via.refl e0 P0 4 rfl (hb hby d3_1) rfl fun T16 X16 e16 => ?_
  refine own_st 11 [] (fun t k => XS.ifnonnullYes X16.here hx rfl (pc0 := 4) (pc' := 11) rfl (hb hby d3_4) rfl (by decide) (by decide) k) ?_
  refine own_ru 12 [(.int (0 : Int32))] X16 hx hby e3_11_1 rfl rfl ?_
  have hq17 : Q3r Z a1 rt h0 n0 (some (.int (nar .boolean (0 : Int32)))) h0 _ := ⟨rfl, N0, rfl⟩
  exact own_retN X16 hx hlk (t := .boolean) hrt (by simp) (hb hby d3_12) e16 hq17 (by decide) (by decide)
abbrev my4 : MethodName := (⟨"java/lang/Integer", "valueOf", "(I)Ljava/lang/Integer;"⟩ : MethodName)
theorem d4_3 : decode jdk_33_method_22_code 3 = .ok (.if_icmp .lt 20, 3) := by decide +kernel
theorem d4_7 : decode jdk_33_method_22_code 7 = .ok (.getstatic 191, 3) := by decide +kernel
theorem d4_10 : decode jdk_33_method_22_code 10 = .ok (.if_icmp .gt 13, 3) := by decide +kernel
theorem d4_13 : decode jdk_33_method_22_code 13 = .ok (.getstatic 195, 3) := by decide +kernel
theorem d4_21 : decode jdk_33_method_22_code 21 = .ok (.aaload, 1) := by decide +kernel
theorem d4_22 : decode jdk_33_method_22_code 22 = .ok (.areturn, 1) := by decide +kernel
theorem e4_0_2 : own_dec jdk_33_method_22_code 0 [(.iload_n 0, 1), (.bipush (-128), 2)] = true := by decide +kernel
theorem e4_6_1 : own_dec jdk_33_method_22_code 6 [(.iload_n 0, 1)] = true := by decide +kernel
theorem e4_16_3 : own_dec jdk_33_method_22_code 16 [(.iload_n 0, 1), (.sipush 128, 3), (.iadd, 1)] = true := by decide +kernel
def Q4v1 (Z : State) (o_cache : Addr) (ccl : Cell) (h0 : Heap) (n0 : Nat) (v : Option Value) (h : Heap) (L : List Loc) : Prop := ∃ ob : Addr, v = some (.ref ob) ∧ Fr n0 L ∧ h = h0
set_option maxRecDepth 65536 in
set_option maxHeartbeats 40000000 in
theorem rm4v1 (l : Launch) (Z : State) (a0 : Array Value) (hw : OW a0 Z) (ws : List Jvm.Cond) (o_cache : Addr) (ccl : Cell) (h0 : Heap) (n0 : Nat) (Z0 : n0 ≤ h0.size) (OLD : Old Z n0 h0) (A : Amb Z o_cache ccl) :
    own_Met l my4 jdk_33_method_22_code 1 (some (.object "java/lang/Integer")) ws (own_rm 0 0 0 0) #[(.int (1 : Int32))] Z h0 (Q4v1 Z o_cache ccl h0 n0) 0 0 := by
  refine own_body (plainFor_of_name pn_0) (fun m => by first | (simp [entryFrame, mkF, argsToLocals, Value.category]; done) | rfl) (Ls := #[.val (.int (1 : Int32))]) fun p e s m below meth c s₁ X0 hx hby hml hZ e0 hown hnm hlk hrt => ?_
  have N0 := Fr.nil n0
  refine own_ru 3 [(.int (-128 : Int32)), (.int (1 : Int32))] X0 hx hby e4_0_2 rfl rfl ?_
  refine own_kN 6 X0 hx (hb hby d4_3) rfl (flt (by decide : ¬ ((1 : Int32) < (-128 : Int32)))).1 rfl ?_
  refine own_ru 7 [(.int (1 : Int32))] X0 hx hby e4_6_1 rfl rfl ?_
  have f18 : Sta Z h0 "java/lang/Integer$IntegerCache" "high" "I" (.int (127 : Int32)) := Sta.ext OLD.2 (Amb.a0 A)
  refine own_gS X0 hx hZ hown (host := "") (Or.inl (wd20 hw)) Via.refl e0 f18 10 (hb hby d4_7) rfl fun T19 X19 e19 => ?_
  refine own_kN 13 X19 hx (hb hby d4_10) rfl (flt (by decide : ¬ ((127 : Int32) < (1 : Int32)))).2.2.1 rfl ?_
  have f20 : Sta Z h0 "java/lang/Integer$IntegerCache" "cache" "[Ljava/lang/Integer;" (.ref o_cache) := Sta.ext OLD.2 (Amb.a1 A)
  refine own_gS X19 hx hZ hown (host := "") (Or.inl (wd22 hw)) Via.refl e19 f20 16 (hb hby d4_13) rfl fun T21 X21 e21 => ?_
  refine own_ru 21 [(.int (129 : Int32)), (.ref o_cache)] X21 hx hby e4_16_3 rfl rfl ?_
  have ArI := (Amb.bx A).1.ext OLD.2
  have hinI : ¬ ((129 : Int32) < 0 ∨ ccl.slots.size ≤ ((129 : Int32)).toNatClampNeg) := by rw [(Amb.bx A).2.1]; decide
  obtain ⟨bI, hbI, -, -⟩ := (Amb.bx A).2.2.2 (129 : Int32) hinI
  refine own_Fin.step (S' := T21.setTop (mkF m 22 #[.val (.int (1 : Int32))] [(.ref bI)])) (X21.aaload hx (j := (129 : Int32)) (v := .ref bI) (by rw [e21]; exact ArI.1) (State.isArrayOf_alike hZ.alike ArI.2.1) rfl ArI.2.2 hinI hbI (g := (mkF m 21 #[.val (.int (1 : Int32))] [(.int (129 : Int32)), (.ref o_cache)])) rfl rfl (hb hby d4_21)) ?_
  have hq22 : Q4v1 Z o_cache ccl h0 n0 (some (.ref bI)) h0 _ := ⟨bI, rfl, N0, rfl⟩
  exact own_retR X21 hx hlk (w := (.ref bI)) rfl hrt rfl (hb hby d4_22) e21 hq22 (by decide) (by decide)
def Q4v2 (Z : State) (o_cache : Addr) (ccl : Cell) (h0 : Heap) (n0 : Nat) (v : Option Value) (h : Heap) (L : List Loc) : Prop := ∃ ob : Addr, v = some (.ref ob) ∧ Fr n0 L ∧ h = h0
set_option maxRecDepth 65536 in
set_option maxHeartbeats 40000000 in
theorem rm4v2 (l : Launch) (Z : State) (a0 : Array Value) (hw : OW a0 Z) (ws : List Jvm.Cond) (o_cache : Addr) (ccl : Cell) (h0 : Heap) (n0 : Nat) (Z0 : n0 ≤ h0.size) (OLD : Old Z n0 h0) (A : Amb Z o_cache ccl) :
    own_Met l my4 jdk_33_method_22_code 1 (some (.object "java/lang/Integer")) ws (own_rm 0 0 0 0) #[(.int (2 : Int32))] Z h0 (Q4v2 Z o_cache ccl h0 n0) 0 0 := by
  refine own_body (plainFor_of_name pn_0) (fun m => by first | (simp [entryFrame, mkF, argsToLocals, Value.category]; done) | rfl) (Ls := #[.val (.int (2 : Int32))]) fun p e s m below meth c s₁ X0 hx hby hml hZ e0 hown hnm hlk hrt => ?_
  have N0 := Fr.nil n0
  refine own_ru 3 [(.int (-128 : Int32)), (.int (2 : Int32))] X0 hx hby e4_0_2 rfl rfl ?_
  refine own_kN 6 X0 hx (hb hby d4_3) rfl (flt (by decide : ¬ ((2 : Int32) < (-128 : Int32)))).1 rfl ?_
  refine own_ru 7 [(.int (2 : Int32))] X0 hx hby e4_6_1 rfl rfl ?_
  have f23 : Sta Z h0 "java/lang/Integer$IntegerCache" "high" "I" (.int (127 : Int32)) := Sta.ext OLD.2 (Amb.a0 A)
  refine own_gS X0 hx hZ hown (host := "") (Or.inl (wd20 hw)) Via.refl e0 f23 10 (hb hby d4_7) rfl fun T24 X24 e24 => ?_
  refine own_kN 13 X24 hx (hb hby d4_10) rfl (flt (by decide : ¬ ((127 : Int32) < (2 : Int32)))).2.2.1 rfl ?_
  have f25 : Sta Z h0 "java/lang/Integer$IntegerCache" "cache" "[Ljava/lang/Integer;" (.ref o_cache) := Sta.ext OLD.2 (Amb.a1 A)
  refine own_gS X24 hx hZ hown (host := "") (Or.inl (wd22 hw)) Via.refl e24 f25 16 (hb hby d4_13) rfl fun T26 X26 e26 => ?_
  refine own_ru 21 [(.int (130 : Int32)), (.ref o_cache)] X26 hx hby e4_16_3 rfl rfl ?_
  have ArI := (Amb.bx A).1.ext OLD.2
  have hinI : ¬ ((130 : Int32) < 0 ∨ ccl.slots.size ≤ ((130 : Int32)).toNatClampNeg) := by rw [(Amb.bx A).2.1]; decide
  obtain ⟨bI, hbI, -, -⟩ := (Amb.bx A).2.2.2 (130 : Int32) hinI
  refine own_Fin.step (S' := T26.setTop (mkF m 22 #[.val (.int (2 : Int32))] [(.ref bI)])) (X26.aaload hx (j := (130 : Int32)) (v := .ref bI) (by rw [e26]; exact ArI.1) (State.isArrayOf_alike hZ.alike ArI.2.1) rfl ArI.2.2 hinI hbI (g := (mkF m 21 #[.val (.int (2 : Int32))] [(.int (130 : Int32)), (.ref o_cache)])) rfl rfl (hb hby d4_21)) ?_
  have hq27 : Q4v2 Z o_cache ccl h0 n0 (some (.ref bI)) h0 _ := ⟨bI, rfl, N0, rfl⟩
  exact own_retR X26 hx hlk (w := (.ref bI)) rfl hrt rfl (hb hby d4_22) e26 hq27 (by decide) (by decide)
abbrev my9 : MethodName := (⟨"com/example/mullion/mullion/service/DyadicTrie$Node", "<init>", "(IJLjava/lang/Object;)V"⟩ : MethodName)
theorem d9_1 : decode prog_42_method_1_code 1 = .ok (.invokespecial 1, 3) := by decide +kernel
theorem d9_6 : decode prog_42_method_1_code 6 = .ok (.putfield 7, 3) := by decide +kernel
theorem d9_11 : decode prog_42_method_1_code 11 = .ok (.putfield 13, 3) := by decide +kernel
theorem d9_17 : decode prog_42_method_1_code 17 = .ok (.putfield 17, 3) := by decide +kernel
theorem d9_20 : decode prog_42_method_1_code 20 = .ok (.return_, 1) := by decide +kernel
theorem e9_0_1 : own_dec prog_42_method_1_code 0 [(.aload_n 0, 1)] = true := by decide +kernel
theorem e9_4_2 : own_dec prog_42_method_1_code 4 [(.aload_n 0, 1), (.iload_n 1, 1)] = true := by decide +kernel
theorem e9_9_2 : own_dec prog_42_method_1_code 9 [(.aload_n 0, 1), (.lload_n 2, 1)] = true := by decide +kernel
theorem e9_14_2 : own_dec prog_42_method_1_code 14 [(.aload_n 0, 1), (.aload 4, 2)] = true := by decide +kernel
theorem pn_3 : plainName "com/example/mullion/mullion/service/DyadicTrie$Node" = true := by first | (simp [plainName, overriddenIn]; done) | decide +kernel
def Q9n (Z : State) (a1 : Addr) (lv : Int32) (sv : Int64) (u0 : Value) (u1 : Value) (u2 : Value) (h0 : Heap) (n0 : Nat) (v : Option Value) (h : Heap) (L : List Loc) : Prop := v = none ∧ Fr n0 L ∧ Keep h0 h [a1] ∧ ex1 Z h a1 ∧ fl2 Z h a1 (.int lv) ∧ fl3 Z h a1 (.long sv) ∧ fl4 Z h a1 .null ∧ fl5 Z h a1 .null ∧ fl6 Z h a1 .null
set_option maxRecDepth 65536 in
set_option maxHeartbeats 40000000 in
theorem rm9n (l : Launch) (Z : State) (a0 : Array Value) (hw : OW a0 Z) (ws : List Jvm.Cond) (a1 : Addr) (lv : Int32) (sv : Int64) (u0 : Value) (u1 : Value) (u2 : Value) (h0 : Heap) (n0 : Nat) (Z0 : n0 ≤ h0.size) (P0 : ex1 Z h0 a1) (P1 : fl2 Z h0 a1 u0) (P2 : fl3 Z h0 a1 u1) (P3 : fl4 Z h0 a1 u2) (P4 : fl5 Z h0 a1 .null) (P5 : fl6 Z h0 a1 .null) (g_a1 : n0 ≤ a1) :
    own_Met l my9 prog_42_method_1_code 5 none ws (own_rm 1 0 0 12) #[(.ref a1), (.int lv), (.long sv), .null] Z h0 (Q9n Z a1 lv sv u0 u1 u2 h0 n0) 0 0 := by
  refine own_body (plainFor_of_name pn_3) (fun m => by first | (simp [entryFrame, mkF, argsToLocals, Value.category]; done) | rfl) (Ls := #[.val (.ref a1), .val (.int lv), .val (.long sv), .second, .val .null]) fun p e s m below meth c s₁ X0 hx hby hml hZ e0 hown hnm hlk hrt => ?_
  have N0 := Fr.nil n0
  have lt_P0 : @LT.lt Nat _ a1 (Array.size h0) := P0.lt
  refine own_ru 1 [(.ref a1)] X0 hx hby e9_0_1 rfl rfl ?_
  refine own_iO X0 hx hZ hown (wd45 hw) (wd7 hw) (wd8 hw) e0 4 0 (by rw [hml]; rfl) rfl (hb hby d9_1) rfl (by decide) rfl (by decide) fun T28 X28 e28 => ?_
  refine own_ru 6 [(.int lv), (.ref a1)] X28 hx hby e9_4_2 rfl rfl ?_
  refine own_pF X28 hx hZ hown (host := "") (Or.inl (wd46 hw)) Via.refl e28 P1 P0 (Or.inr ⟨(wd47 hw), rfl, hnm⟩) (wd40 hw) (ty := .int) (by decide) rfl rfl 9 rfl (hb hby d9_6) rfl fun T29 h29 X29 e29 W29 => ?_
  have F29 := Fld.same W29 P1
  have z29 := W29.size
  have KK29 : Keep h0 h29 [a1] := (Keep.refl h0 [a1]).wr W29 (Or.inl (by simp))
  have N29 := Fr.snoc X29 N0 (by omega)
  refine own_ru 11 [(.long sv), (.ref a1)] X29 hx hby e9_9_2 rfl rfl ?_
  have f30 := (Exa.wr W29 P0)
  have f31 := (Fld.other W29 P2 (Or.inr (slot_ne (Or.inr (wd49 hw)) (Or.inr (wd47 hw)) (by decide) (t := .long) (t' := .int) (by decide) (by decide))))
  refine own_pF X29 hx hZ hown (host := "") (Or.inl (wd48 hw)) Via.refl e29 f31 f30 (Or.inr ⟨(wd49 hw), rfl, hnm⟩) (wd40 hw) (ty := .long) (by decide) rfl rfl 14 rfl (hb hby d9_11) rfl fun T32 h32 X32 e32 W32 => ?_
  have F32 := Fld.same W32 f31
  have z32 := W32.size
  have KK32 : Keep h0 h32 [a1] := KK29.wr W32 (Or.inl (by simp))
  have N32 := Fr.snoc X32 N29 (by omega)
  refine own_ru 17 [.null, (.ref a1)] X32 hx hby e9_14_2 rfl rfl ?_
  have f33 := (Exa.wr W32 f30)
  have f34 := (Fld.other W32 (Fld.other W29 P3 (Or.inr (slot_ne (Or.inl (wd51 hw)) (Or.inr (wd47 hw)) (by decide) (t := (.object "java/lang/Object")) (t' := .int) (by decide) (by decide)))) (Or.inr (slot_ne (Or.inl (wd51 hw)) (Or.inr (wd49 hw)) (by decide) (t := (.object "java/lang/Object")) (t' := .long) (by decide) (by decide))))
  refine own_pF X32 hx hZ hown (host := "") (Or.inl (wd50 hw)) Via.refl e32 f34 f33 (Or.inl (wd51 hw)) (wd40 hw) (ty := (.object "java/lang/Object")) (by decide) rfl rfl 20 rfl (hb hby d9_17) rfl fun T35 h35 X35 e35 W35 => ?_
  have F35 := Fld.same W35 f34
  have z35 := W35.size
  have KK35 : Keep h0 h35 [a1] := KK32.wr W35 (Or.inl (by simp))
  have N35 := Fr.snoc X35 N32 (by omega)
  have f37 := (Exa.wr W35 f33)
  have f38 := (Fld.other W35 (Fld.other W32 F29 (Or.inr (slot_ne (Or.inr (wd47 hw)) (Or.inr (wd49 hw)) (by decide) (t := .int) (t' := .long) (by decide) (by decide)))) (Or.inr (slot_ne (Or.inr (wd47 hw)) (Or.inl (wd51 hw)) (by decide) (t := .int) (t' := (.object "java/lang/Object")) (by decide) (by decide))))
  have f39 := (Fld.other W35 F32 (Or.inr (slot_ne (Or.inr (wd49 hw)) (Or.inl (wd51 hw)) (by decide) (t := .long) (t' := (.object "java/lang/Object")) (by decide) (by decide))))
  have f40 := (Fld.other W35 (Fld.other W32 (Fld.other W29 P4 (Or.inr (slot_ne (Or.inl (wd95 hw)) (Or.inr (wd47 hw)) (by decide) (t := (.object "com/example/mullion/mullion/service/DyadicTrie$Node")) (t' := .int) (by decide) (by decide)))) (Or.inr (slot_ne (Or.inl (wd95 hw)) (Or.inr (wd49 hw)) (by decide) (t := (.object "com/example/mullion/mullion/service/DyadicTrie$Node")) (t' := .long) (by decide) (by decide)))) (Or.inr (slot_ne (Or.inl (wd95 hw)) (Or.inl (wd51 hw)) (by decide) (t := (.object "com/example/mullion/mullion/service/DyadicTrie$Node")) (t' := (.object "java/lang/Object")) (by decide) (by decide))))
  have f41 := (Fld.other W35 (Fld.other W32 (Fld.other W29 P5 (Or.inr (slot_ne (Or.inl (wd93 hw)) (Or.inr (wd47 hw)) (by decide) (t := (.object "com/example/mullion/mullion/service/DyadicTrie$Node")) (t' := .int) (by decide) (by decide)))) (Or.inr (slot_ne (Or.inl (wd93 hw)) (Or.inr (wd49 hw)) (by decide) (t := (.object "com/example/mullion/mullion/service/DyadicTrie$Node")) (t' := .long) (by decide) (by decide)))) (Or.inr (slot_ne (Or.inl (wd93 hw)) (Or.inl (wd51 hw)) (by decide) (t := (.object "com/example/mullion/mullion/service/DyadicTrie$Node")) (t' := (.object "java/lang/Object")) (by decide) (by decide))))
  have hq36 : Q9n Z a1 lv sv u0 u1 u2 h0 n0 none h35 _ := ⟨rfl, N35, KK35, f37, f38, f39, F35, f40, f41⟩
  exact own_retV X35 hx hlk hrt (hb hby d9_20) e35 hq36 (by decide) (by decide)
def Q9r (Z : State) (a1 : Addr) (lv : Int32) (sv : Int64) (vo : Addr) (u0 : Value) (u1 : Value) (u2 : Value) (h0 : Heap) (n0 : Nat) (v : Option Value) (h : Heap) (L : List Loc) : Prop := v = none ∧ Fr n0 L ∧ Keep h0 h [a1] ∧ ex1 Z h a1 ∧ fl2 Z h a1 (.int lv) ∧ fl3 Z h a1 (.long sv) ∧ fl4 Z h a1 (.ref vo) ∧ fl5 Z h a1 .null ∧ fl6 Z h a1 .null
set_option maxRecDepth 65536 in
set_option maxHeartbeats 40000000 in
theorem rm9r (l : Launch) (Z : State) (a0 : Array Value) (hw : OW a0 Z) (ws : List Jvm.Cond) (a1 : Addr) (lv : Int32) (sv : Int64) (vo : Addr) (u0 : Value) (u1 : Value) (u2 : Value) (h0 : Heap) (n0 : Nat) (Z0 : n0 ≤ h0.size) (P0 : ex1 Z h0 a1) (P1 : fl2 Z h0 a1 u0) (P2 : fl3 Z h0 a1 u1) (P3 : fl4 Z h0 a1 u2) (P4 : fl5 Z h0 a1 .null) (P5 : fl6 Z h0 a1 .null) (g_a1 : n0 ≤ a1) :
    own_Met l my9 prog_42_method_1_code 5 none ws (own_rm 1 0 0 12) #[(.ref a1), (.int lv), (.long sv), (.ref vo)] Z h0 (Q9r Z a1 lv sv vo u0 u1 u2 h0 n0) 0 0 := by
  refine own_body (plainFor_of_name pn_3) (fun m => by first | (simp [entryFrame, mkF, argsToLocals, Value.category]; done) | rfl) (Ls := #[.val (.ref a1), .val (.int lv), .val (.long sv), .second, .val (.ref vo)]) fun p e s m below meth c s₁ X0 hx hby hml hZ e0 hown hnm hlk hrt => ?_
  have N0 := Fr.nil n0
  have lt_P0 : @LT.lt Nat _ a1 (Array.size h0) := P0.lt
  refine own_ru 1 [(.ref a1)] X0 hx hby e9_0_1 rfl rfl ?_
  refine own_iO X0 hx hZ hown (wd45 hw) (wd7 hw) (wd8 hw) e0 4 0 (by rw [hml]; rfl) rfl (hb hby d9_1) rfl (by decide) rfl (by decide) fun T42 X42 e42 => ?_
  refine own_ru 6 [(.int lv), (.ref a1)] X42 hx hby e9_4_2 rfl rfl ?_
  refine own_pF X42 hx hZ hown (host := "") (Or.inl (wd46 hw)) Via.refl e42 P1 P0 (Or.inr ⟨(wd47 hw), rfl, hnm⟩) (wd40 hw) (ty := .int) (by decide) rfl rfl 9 rfl (hb hby d9_6) rfl fun T43 h43 X43 e43 W43 => ?_
  have F43 := Fld.same W43 P1
  have z43 := W43.size
  have KK43 : Keep h0 h43 [a1] := (Keep.refl h0 [a1]).wr W43 (Or.inl (by simp))
  have N43 := Fr.snoc X43 N0 (by omega)
  refine own_ru 11 [(.long sv), (.ref a1)] X43 hx hby e9_9_2 rfl rfl ?_
  have f44 := (Exa.wr W43 P0)
  have f45 := (Fld.other W43 P2 (Or.inr (slot_ne (Or.inr (wd49 hw)) (Or.inr (wd47 hw)) (by decide) (t := .long) (t' := .int) (by decide) (by decide))))
  refine own_pF X43 hx hZ hown (host := "") (Or.inl (wd48 hw)) Via.refl e43 f45 f44 (Or.inr ⟨(wd49 hw), rfl, hnm⟩) (wd40 hw) (ty := .long) (by decide) rfl rfl 14 rfl (hb hby d9_11) rfl fun T46 h46 X46 e46 W46 => ?_
  have F46 := Fld.same W46 f45
  have z46 := W46.size
  have KK46 : Keep h0 h46 [a1] := KK43.wr W46 (Or.inl (by simp))
  have N46 := Fr.snoc X46 N43 (by omega)
  refine own_ru 17 [(.ref vo), (.ref a1)] X46 hx hby e9_14_2 rfl rfl ?_
  have f47 := (Exa.wr W46 f44)
  have f48 := (Fld.other W46 (Fld.other W43 P3 (Or.inr (slot_ne (Or.inl (wd51 hw)) (Or.inr (wd47 hw)) (by decide) (t := (.object "java/lang/Object")) (t' := .int) (by decide) (by decide)))) (Or.inr (slot_ne (Or.inl (wd51 hw)) (Or.inr (wd49 hw)) (by decide) (t := (.object "java/lang/Object")) (t' := .long) (by decide) (by decide))))
  refine own_pF X46 hx hZ hown (host := "") (Or.inl (wd50 hw)) Via.refl e46 f48 f47 (Or.inl (wd51 hw)) (wd40 hw) (ty := (.object "java/lang/Object")) (by decide) rfl rfl 20 rfl (hb hby d9_17) rfl fun T49 h49 X49 e49 W49 => ?_
  have F49 := Fld.same W49 f48
  have z49 := W49.size
  have KK49 : Keep h0 h49 [a1] := KK46.wr W49 (Or.inl (by simp))
  have N49 := Fr.snoc X49 N46 (by omega)
  have f51 := (Exa.wr W49 f47)
  have f52 := (Fld.other W49 (Fld.other W46 F43 (Or.inr (slot_ne (Or.inr (wd47 hw)) (Or.inr (wd49 hw)) (by decide) (t := .int) (t' := .long) (by decide) (by decide)))) (Or.inr (slot_ne (Or.inr (wd47 hw)) (Or.inl (wd51 hw)) (by decide) (t := .int) (t' := (.object "java/lang/Object")) (by decide) (by decide))))
  have f53 := (Fld.other W49 F46 (Or.inr (slot_ne (Or.inr (wd49 hw)) (Or.inl (wd51 hw)) (by decide) (t := .long) (t' := (.object "java/lang/Object")) (by decide) (by decide))))
  have f54 := (Fld.other W49 (Fld.other W46 (Fld.other W43 P4 (Or.inr (slot_ne (Or.inl (wd95 hw)) (Or.inr (wd47 hw)) (by decide) (t := (.object "com/example/mullion/mullion/service/DyadicTrie$Node")) (t' := .int) (by decide) (by decide)))) (Or.inr (slot_ne (Or.inl (wd95 hw)) (Or.inr (wd49 hw)) (by decide) (t := (.object "com/example/mullion/mullion/service/DyadicTrie$Node")) (t' := .long) (by decide) (by decide)))) (Or.inr (slot_ne (Or.inl (wd95 hw)) (Or.inl (wd51 hw)) (by decide) (t := (.object "com/example/mullion/mullion/service/DyadicTrie$Node")) (t' := (.object "java/lang/Object")) (by decide) (by decide))))
  have f55 := (Fld.other W49 (Fld.other W46 (Fld.other W43 P5 (Or.inr (slot_ne (Or.inl (wd93 hw)) (Or.inr (wd47 hw)) (by decide) (t := (.object "com/example/mullion/mullion/service/DyadicTrie$Node")) (t' := .int) (by decide) (by decide)))) (Or.inr (slot_ne (Or.inl (wd93 hw)) (Or.inr (wd49 hw)) (by decide) (t := (.object "com/example/mullion/mullion/service/DyadicTrie$Node")) (t' := .long) (by decide) (by decide)))) (Or.inr (slot_ne (Or.inl (wd93 hw)) (Or.inl (wd51 hw)) (by decide) (t := (.object "com/example/mullion/mullion/service/DyadicTrie$Node")) (t' := (.object "java/lang/Object")) (by decide) (by decide))))
  have hq50 : Q9r Z a1 lv sv vo u0 u1 u2 h0 n0 none h49 _ := ⟨rfl, N49, KK49, f51, f52, f53, F49, f54, f55⟩
  exact own_retV X49 hx hlk hrt (hb hby d9_20) e49 hq50 (by decide) (by decide)
abbrev my13 : MethodName := (⟨"com/example/mullion/mullion/service/DyadicTrie$Node", "holds", "(J)Z"⟩ : MethodName)
theorem d13_2 : decode prog_42_method_5_code 2 = .ok (.getfield 7, 3) := by decide +kernel
theorem d13_5 : decode prog_42_method_5_code 5 = .ok (.lushr, 1) := by decide +kernel
theorem d13_7 : decode prog_42_method_5_code 7 = .ok (.getfield 13, 3) := by decide +kernel
theorem d13_11 : decode prog_42_method_5_code 11 = .ok (.getfield 7, 3) := by decide +kernel
theorem d13_14 : decode prog_42_method_5_code 14 = .ok (.lushr, 1) := by decide +kernel
theorem d13_15 : decode prog_42_method_5_code 15 = .ok (.lcmp, 1) := by decide +kernel
theorem d13_16 : decode prog_42_method_5_code 16 = .ok (.ifCond .ne 7, 3) := by decide +kernel
theorem d13_20 : decode prog_42_method_5_code 20 = .ok (.goto 4, 3) := by decide +kernel
theorem d13_24 : decode prog_42_method_5_code 24 = .ok (.ireturn, 1) := by decide +kernel
theorem e13_0_2 : own_dec prog_42_method_5_code 0 [(.lload_n 1, 1), (.aload_n 0, 1)] = true := by decide +kernel
theorem e13_6_1 : own_dec prog_42_method_5_code 6 [(.aload_n 0, 1)] = true := by decide +kernel
theorem e13_10_1 : own_dec prog_42_method_5_code 10 [(.aload_n 0, 1)] = true := by decide +kernel
theorem e13_19_1 : own_dec prog_42_method_5_code 19 [(.iconst 1, 1)] = true := by decide +kernel
theorem e13_23_1 : own_dec prog_42_method_5_code 23 [(.iconst 0, 1)] = true := by decide +kernel
def Q13 (Z : State) (a1 : Addr) (z1 : Int64) (lv : Int32) (sv : Int64) (h0 : Heap) (n0 : Nat) (v : Option Value) (h : Heap) (L : List Loc) : Prop := own_bool (own_holds lv sv z1) v ∧ Fr n0 L ∧ h = h0
set_option maxRecDepth 65536 in
set_option maxHeartbeats 40000000 in
theorem rm13 (l : Launch) (Z : State) (a0 : Array Value) (hw : OW a0 Z) (ws : List Jvm.Cond) (a1 : Addr) (z1 : Int64) (lv : Int32) (sv : Int64) (h0 : Heap) (n0 : Nat) (Z0 : n0 ≤ h0.size) (P0 : ex1 Z h0 a1) (P1 : fl2 Z h0 a1 (.int lv)) (P2 : fl3 Z h0 a1 (.long sv)) :
    own_Met l my13 prog_42_method_5_code 3 (some .boolean) ws (own_rm 0 0 0 0) #[(.ref a1), (.long z1)] Z h0 (Q13 Z a1 z1 lv sv h0 n0) 0 0 := by
  refine own_body (plainFor_of_name pn_3) (fun m => by first | (simp [entryFrame, mkF, argsToLocals, Value.category]; done) | rfl) (Ls := #[.val (.ref a1), .val (.long z1), .second]) fun p e s m below meth c s₁ X0 hx hby hml hZ e0 hown hnm hlk hrt => ?_
  have N0 := Fr.nil n0
  have lt_P0 : @LT.lt Nat _ a1 (Array.size h0) := P0.lt
  refine own_ru 2 [(.ref a1), (.long z1)] X0 hx hby e13_0_2 rfl rfl ?_
  refine own_gF X0 hx hZ hown (host := "") (Or.inl (wd46 hw)) Via.refl e0 P1 5 rfl (hb hby d13_2) rfl fun T56 X56 e56 => ?_
  refine own_st 6 [(.long ((z1.toUInt64 >>> (lv &&& 0x3f).toInt64.toUInt64).toInt64))] (fun t k => XS.lushr X56.here hx rfl (hb hby d13_5) rfl k) ?_
  refine own_ru 7 [(.ref a1), (.long ((z1.toUInt64 >>> (lv &&& 0x3f).toInt64.toUInt64).toInt64))] X56 hx hby e13_6_1 rfl rfl ?_
  refine own_gF X56 hx hZ hown (host := "") (Or.inl (wd48 hw)) Via.refl e56 P2 10 rfl (hb hby d13_7) rfl fun T57 X57 e57 => ?_
  refine own_ru 11 [(.ref a1), (.long sv), (.long ((z1.toUInt64 >>> (lv &&& 0x3f).toInt64.toUInt64).toInt64))] X57 hx hby e13_10_1 rfl rfl ?_
  refine own_gF X57 hx hZ hown (host := "") (Or.inl (wd46 hw)) Via.refl e57 P1 14 rfl (hb hby d13_11) rfl fun T58 X58 e58 => ?_
  refine own_st 15 [(.long ((sv.toUInt64 >>> (lv &&& 0x3f).toInt64.toUInt64).toInt64)), (.long ((z1.toUInt64 >>> (lv &&& 0x3f).toInt64.toUInt64).toInt64))] (fun t k => XS.lushr X58.here hx rfl (hb hby d13_14) rfl k) ?_
  refine own_st 16 [(.int (lcmpW ((z1.toUInt64 >>> (lv &&& 0x3f).toInt64.toUInt64).toInt64) ((sv.toUInt64 >>> (lv &&& 0x3f).toInt64.toUInt64).toInt64)))] (fun t k => XS.lcmp X58.here hx rfl (hb hby d13_15) rfl k) ?_
  by_cases hc16 : ((z1.toUInt64 >>> (lv &&& 0x3f).toInt64.toUInt64).toInt64) = ((sv.toUInt64 >>> (lv &&& 0x3f).toInt64.toUInt64).toInt64)
  · refine own_iN 19 X58 hx (hb hby d13_16) rfl ((if0 _ _).trans (teq ((lw_eq _ _).mpr hc16)).2) rfl ?_
    refine own_ru 20 [(.int (1 : Int32))] X58 hx hby e13_19_1 rfl rfl ?_
    refine own_go 24 X58 hx (hb hby d13_20) (by decide) (by decide) ?_
    have hq59 : Q13 Z a1 z1 lv sv h0 n0 (some (.int (nar .boolean (1 : Int32)))) h0 _ := ⟨Or.inl ⟨rfl, hc16⟩, N0, rfl⟩
    exact own_retN X58 hx hlk (t := .boolean) hrt (by simp) (hb hby d13_24) e58 hq59 (by decide) (by decide)
  · refine own_iY 23 X58 hx (hb hby d13_16) rfl ((if0 _ _).trans (feq (fun q => hc16 ((lw_eq _ _).mp q))).2) (by decide) (by decide) ?_
    refine own_ru 24 [(.int (0 : Int32))] X58 hx hby e13_23_1 rfl rfl ?_
    have hq60 : Q13 Z a1 z1 lv sv h0 n0 (some (.int (nar .boolean (0 : Int32)))) h0 _ := ⟨Or.inr ⟨rfl, hc16⟩, N0, rfl⟩
    exact own_retN X58 hx hlk (t := .boolean) hrt (by simp) (hb hby d13_24) e58 hq60 (by decide) (by decide)
abbrev my12 : MethodName := (⟨"com/example/mullion/mullion/service/DyadicTrie$Node", "isWiderThan", "(IJ)Z"⟩ : MethodName)
theorem d12_1 : decode prog_42_method_6_code 1 = .ok (.getfield 7, 3) := by decide +kernel
theorem d12_5 : decode prog_42_method_6_code 5 = .ok (.if_icmp .le 15, 3) := by decide +kernel
theorem d12_10 : decode prog_42_method_6_code 10 = .ok (.invokevirtual 35, 3) := by decide +kernel
theorem d12_13 : decode prog_42_method_6_code 13 = .ok (.ifCond .eq 7, 3) := by decide +kernel
theorem d12_17 : decode prog_42_method_6_code 17 = .ok (.goto 4, 3) := by decide +kernel
theorem d12_21 : decode prog_42_method_6_code 21 = .ok (.ireturn, 1) := by decide +kernel
theorem e12_0_1 : own_dec prog_42_method_6_code 0 [(.aload_n 0, 1)] = true := by decide +kernel
theorem e12_4_1 : own_dec prog_42_method_6_code 4 [(.iload_n 1, 1)] = true := by decide +kernel
theorem e12_8_2 : own_dec prog_42_method_6_code 8 [(.aload_n 0, 1), (.lload_n 2, 1)] = true := by decide +kernel
theorem e12_16_1 : own_dec prog_42_method_6_code 16 [(.iconst 1, 1)] = true := by decide +kernel
theorem e12_20_1 : own_dec prog_42_method_6_code 20 [(.iconst 0, 1)] = true := by decide +kernel
theorem pd_2 : parseMethodDescriptor "(J)Z" = some ⟨[.long], some .boolean⟩ := by decide +kernel
def Q12 (Z : State) (a1 : Addr) (l1 : Int32) (z1 : Int64) (lv : Int32) (sv : Int64) (h0 : Heap) (n0 : Nat) (v : Option Value) (h : Heap) (L : List Loc) : Prop := own_bool (own_wid lv sv l1 z1) v ∧ Fr n0 L ∧ h = h0
set_option maxRecDepth 65536 in
set_option maxHeartbeats 40000000 in
theorem rm12 (l : Launch) (Z : State) (a0 : Array Value) (hw : OW a0 Z) (ws : List Jvm.Cond) (a1 : Addr) (l1 : Int32) (z1 : Int64) (lv : Int32) (sv : Int64) (h0 : Heap) (n0 : Nat) (Z0 : n0 ≤ h0.size) (P0 : ex1 Z h0 a1) (P1 : fl2 Z h0 a1 (.int lv)) (P2 : fl3 Z h0 a1 (.long sv)) :
    own_Met l my12 prog_42_method_6_code 4 (some .boolean) ws (own_rm 1 0 0 14) #[(.ref a1), (.int l1), (.long z1)] Z h0 (Q12 Z a1 l1 z1 lv sv h0 n0) 0 0 := by
  refine own_body (plainFor_of_name pn_3) (fun m => by first | (simp [entryFrame, mkF, argsToLocals, Value.category]; done) | rfl) (Ls := #[.val (.ref a1), .val (.int l1), .val (.long z1), .second]) fun p e s m below meth c s₁ X0 hx hby hml hZ e0 hown hnm hlk hrt => ?_
  have N0 := Fr.nil n0
  have lt_P0 : @LT.lt Nat _ a1 (Array.size h0) := P0.lt
  refine own_ru 1 [(.ref a1)] X0 hx hby e12_0_1 rfl rfl ?_
  refine own_gF X0 hx hZ hown (host := "") (Or.inl (wd46 hw)) Via.refl e0 P1 4 rfl (hb hby d12_1) rfl fun T61 X61 e61 => ?_
  refine own_ru 5 [(.int l1), (.int lv)] X61 hx hby e12_4_1 rfl rfl ?_
  by_cases hc5 : l1 < lv
  · refine own_kN 8 X61 hx (hb hby d12_5) rfl (tlt hc5).2.2.2 rfl ?_
    refine own_ru 10 [(.long z1), (.ref a1)] X61 hx hby e12_8_2 rfl rfl ?_
    refine own_cG X61 hx hZ hown (wd64 hw) (wd65 hw) (own_selPriv (mvT hZ (wd40 hw)) (Cond.privateMethod_at (mvP hZ (wd66 hw) (args := #[]))) (mvT hZ (wd65 hw)) (by decide)) (wd66 hw) (by decide) (wd67 hw) (wd41 hw) (rm13 l Z a0 hw [] a1 z1 lv sv h0 n0 (by omega) P0 P1 P2) e61 P0 [(.long z1)] [] 13 0 (hb hby d12_10) rfl (by rw [hml]; rfl) rfl rfl (lenOf pd_2 rfl) rfl (by decide) fun v62 T62 Lc62 X62 hQ62 => ?_
    obtain ⟨hvc62, N62q, e62⟩ := hQ62
    have N62 := Fr.app N0 N62q
    rcases hvc62 with ⟨rfl, hp10⟩ | ⟨rfl, hp10⟩
    · refine own_iN 16 X62 hx (hb hby d12_13) rfl ((if0 _ _).trans (feq (by decide : ¬ ((1 : Int32) = (0 : Int32)))).1) rfl ?_
      refine own_ru 17 [(.int (1 : Int32))] X62 hx hby e12_16_1 rfl rfl ?_
      refine own_go 21 X62 hx (hb hby d12_17) (by decide) (by decide) ?_
      have hq63 : Q12 Z a1 l1 z1 lv sv h0 n0 (some (.int (nar .boolean (1 : Int32)))) h0 _ := ⟨Or.inl ⟨rfl, ⟨hc5, hp10⟩⟩, N62, rfl⟩
      exact own_retN X62 hx hlk (t := .boolean) hrt (by simp) (hb hby d12_21) e62 hq63 (by decide) (by decide)
    · refine own_iY 20 X62 hx (hb hby d12_13) rfl ((if0 _ _).trans (teq (by decide : ((0 : Int32) = (0 : Int32)))).1) (by decide) (by decide) ?_
      refine own_ru 21 [(.int (0 : Int32))] X62 hx hby e12_20_1 rfl rfl ?_
      have hq64 : Q12 Z a1 l1 z1 lv sv h0 n0 (some (.int (nar .boolean (0 : Int32)))) h0 _ := ⟨Or.inr ⟨rfl, (fun q => hp10 q.2)⟩, N62, rfl⟩
      exact own_retN X62 hx hlk (t := .boolean) hrt (by simp) (hb hby d12_21) e62 hq64 (by decide) (by decide)
  · refine own_kY 20 X61 hx (hb hby d12_5) rfl (flt hc5).2.2.2 (by decide) (by decide) ?_
    refine own_ru 21 [(.int (0 : Int32))] X61 hx hby e12_20_1 rfl rfl ?_
    have hq65 : Q12 Z a1 l1 z1 lv sv h0 n0 (some (.int (nar .boolean (0 : Int32)))) h0 _ := ⟨Or.inr ⟨rfl, (fun q => hc5 q.1)⟩, N0, rfl⟩
    exact own_retN X61 hx hlk (t := .boolean) hrt (by simp) (hb hby d12_21) e61 hq65 (by decide) (by decide)
abbrev my14 : MethodName := (⟨"com/example/mullion/mullion/service/DyadicTrie$Node", "isAt", "(IJ)Z"⟩ : MethodName)
theorem d14_1 : decode prog_42_method_7_code 1 = .ok (.getfield 7, 3) := by decide +kernel
theorem d14_5 : decode prog_42_method_7_code 5 = .ok (.if_icmp .ne 16, 3) := by decide +kernel
theorem d14_9 : decode prog_42_method_7_code 9 = .ok (.getfield 13, 3) := by decide +kernel
theorem d14_13 : decode prog_42_method_7_code 13 = .ok (.lcmp, 1) := by decide +kernel
theorem d14_14 : decode prog_42_method_7_code 14 = .ok (.ifCond .ne 7, 3) := by decide +kernel
theorem d14_18 : decode prog_42_method_7_code 18 = .ok (.goto 4, 3) := by decide +kernel
theorem d14_22 : decode prog_42_method_7_code 22 = .ok (.ireturn, 1) := by decide +kernel
theorem e14_0_1 : own_dec prog_42_method_7_code 0 [(.aload_n 0, 1)] = true := by decide +kernel
theorem e14_4_1 : own_dec prog_42_method_7_code 4 [(.iload_n 1, 1)] = true := by decide +kernel
theorem e14_8_1 : own_dec prog_42_method_7_code 8 [(.aload_n 0, 1)] = true := by decide +kernel
theorem e14_12_1 : own_dec prog_42_method_7_code 12 [(.lload_n 2, 1)] = true := by decide +kernel
theorem e14_17_1 : own_dec prog_42_method_7_code 17 [(.iconst 1, 1)] = true := by decide +kernel
theorem e14_21_1 : own_dec prog_42_method_7_code 21 [(.iconst 0, 1)] = true := by decide +kernel
def Q14 (Z : State) (a1 : Addr) (l1 : Int32) (z1 : Int64) (lv : Int32) (sv : Int64) (h0 : Heap) (n0 : Nat) (v : Option Value) (h : Heap) (L : List Loc) : Prop := own_bool (lv = l1 ∧ sv = z1) v ∧ Fr n0 L ∧ h = h0
set_option maxRecDepth 65536 in
set_option maxHeartbeats 40000000 in
theorem rm14 (l : Launch) (Z : State) (a0 : Array Value) (hw : OW a0 Z) (ws : List Jvm.Cond) (a1 : Addr) (l1 : Int32) (z1 : Int64) (lv : Int32) (sv : Int64) (h0 : Heap) (n0 : Nat) (Z0 : n0 ≤ h0.size) (P0 : fl2 Z h0 a1 (.int lv)) (P1 : fl3 Z h0 a1 (.long sv)) :
    own_Met l my14 prog_42_method_7_code 4 (some .boolean) ws (own_rm 0 0 0 0) #[(.ref a1), (.int l1), (.long z1)] Z h0 (Q14 Z a1 l1 z1 lv sv h0 n0) 0 0 := by
  refine own_body (plainFor_of_name pn_3) (fun m => by first | (simp [entryFrame, mkF, argsToLocals, Value.category]; done) | rfl) (Ls := #[.val (.ref a1), .val (.int l1), .val (.long z1), .second]) fun p e s m below meth c s₁ X0 hx hby hml hZ e0 hown hnm hlk hrt => ?_
  have N0 := Fr.nil n0
  have lt_P0 : @LT.lt Nat _ a1 (Array.size h0) := P0.lt
  refine own_ru 1 [(.ref a1)] X0 hx hby e14_0_1 rfl rfl ?_
  refine own_gF X0 hx hZ hown (host := "") (Or.inl (wd46 hw)) Via.refl e0 P0 4 rfl (hb hby d14_1) rfl fun T66 X66 e66 => ?_
  refine own_ru 5 [(.int l1), (.int lv)] X66 hx hby e14_4_1 rfl rfl ?_
  by_cases hc5 : lv = l1
  · refine own_kN 8 X66 hx (hb hby d14_5) rfl (teq hc5).2 rfl ?_
    refine own_ru 9 [(.ref a1)] X66 hx hby e14_8_1 rfl rfl ?_
    refine own_gF X66 hx hZ hown (host := "") (Or.inl (wd48 hw)) Via.refl e66 P1 12 rfl (hb hby d14_9) rfl fun T67 X67 e67 => ?_
    refine own_ru 13 [(.long z1), (.long sv)] X67 hx hby e14_12_1 rfl rfl ?_
    refine own_st 14 [(.int (lcmpW sv z1))] (fun t k => XS.lcmp X67.here hx rfl (hb hby d14_13) rfl k) ?_
    by_cases hc14 : sv = z1
    · refine own_iN 17 X67 hx (hb hby d14_14) rfl ((if0 _ _).trans (teq ((lw_eq _ _).mpr hc14)).2) rfl ?_
      refine own_ru 18 [(.int (1 : Int32))] X67 hx hby e14_17_1 rfl rfl ?_
      refine own_go 22 X67 hx (hb hby d14_18) (by decide) (by decide) ?_
      have hq68 : Q14 Z a1 l1 z1 lv sv h0 n0 (some (.int (nar .boolean (1 : Int32)))) h0 _ := ⟨Or.inl ⟨rfl, ⟨hc5, hc14⟩⟩, N0, rfl⟩
      exact own_retN X67 hx hlk (t := .boolean) hrt (by simp) (hb hby d14_22) e67 hq68 (by decide) (by decide)
    · refine own_iY 21 X67 hx (hb hby d14_14) rfl ((if0 _ _).trans (feq (fun q => hc14 ((lw_eq _ _).mp q))).2) (by decide) (by decide) ?_
      refine own_ru 22 [(.int (0 : Int32))] X67 hx hby e14_21_1 rfl rfl ?_
      have hq69 : Q14 Z a1 l1 z1 lv sv h0 n0 (some (.int (nar .boolean (0 : Int32)))) h0 _ := ⟨Or.inr ⟨rfl, (fun q => hc14 q.2)⟩, N0, rfl⟩
      exact own_retN X67 hx hlk (t := .boolean) hrt (by simp) (hb hby d14_22) e67 hq69 (by decide) (by decide)
  · refine own_kY 21 X66 hx (hb hby d14_5) rfl (feq hc5).2 (by decide) (by decide) ?_
    refine own_ru 22 [(.int (0 : Int32))] X66 hx hby e14_21_1 rfl rfl ?_
    have hq70 : Q14 Z a1 l1 z1 lv sv h0 n0 (some (.int (nar .boolean (0 : Int32)))) h0 _ := ⟨Or.inr ⟨rfl, (fun q => hc5 q.1)⟩, N0, rfl⟩
    exact own_retN X66 hx hlk (t := .boolean) hrt (by simp) (hb hby d14_22) e66 hq70 (by decide) (by decide)
abbrev my19 : MethodName := (⟨"com/example/mullion/mullion/service/DyadicTrie$Node", "isLowerHalf", "(J)Z"⟩ : MethodName)
theorem d19_1 : decode prog_42_method_9_code 1 = .ok (.lconst 1, 1) := by decide +kernel
theorem d19_3 : decode prog_42_method_9_code 3 = .ok (.getfield 7, 3) := by decide +kernel
theorem d19_8 : decode prog_42_method_9_code 8 = .ok (.lshl, 1) := by decide +kernel
theorem d19_10 : decode prog_42_method_9_code 10 = .ok (.lconst 0, 1) := by decide +kernel
theorem d19_11 : decode prog_42_method_9_code 11 = .ok (.lcmp, 1) := by decide +kernel
theorem d19_12 : decode prog_42_method_9_code 12 = .ok (.ifCond .ne 7, 3) := by decide +kernel
theorem d19_16 : decode prog_42_method_9_code 16 = .ok (.goto 4, 3) := by decide +kernel
theorem d19_20 : decode prog_42_method_9_code 20 = .ok (.ireturn, 1) := by decide +kernel
theorem e19_0_1 : own_dec prog_42_method_9_code 0 [(.lload_n 1, 1)] = true := by decide +kernel
theorem e19_2_1 : own_dec prog_42_method_9_code 2 [(.aload_n 0, 1)] = true := by decide +kernel
theorem e19_6_2 : own_dec prog_42_method_9_code 6 [(.iconst 1, 1), (.isub, 1)] = true := by decide +kernel
theorem e19_9_1 : own_dec prog_42_method_9_code 9 [(.land, 1)] = true := by decide +kernel
theorem e19_15_1 : own_dec prog_42_method_9_code 15 [(.iconst 1, 1)] = true := by decide +kernel
theorem e19_19_1 : own_dec prog_42_method_9_code 19 [(.iconst 0, 1)] = true := by decide +kernel
def Q19 (Z : State) (a1 : Addr) (z1 : Int64) (lv : Int32) (h0 : Heap) (n0 : Nat) (v : Option Value) (h : Heap) (L : List Loc) : Prop := own_bool (own_low lv z1) v ∧ Fr n0 L ∧ h = h0
set_option maxRecDepth 65536 in
set_option maxHeartbeats 40000000 in
theorem rm19 (l : Launch) (Z : State) (a0 : Array Value) (hw : OW a0 Z) (ws : List Jvm.Cond) (a1 : Addr) (z1 : Int64) (lv : Int32) (h0 : Heap) (n0 : Nat) (Z0 : n0 ≤ h0.size) (P0 : fl2 Z h0 a1 (.int lv)) :
    own_Met l my19 prog_42_method_9_code 3 (some .boolean) ws (own_rm 0 0 0 0) #[(.ref a1), (.long z1)] Z h0 (Q19 Z a1 z1 lv h0 n0) 0 0 := by
  refine own_body (plainFor_of_name pn_3) (fun m => by first | (simp [entryFrame, mkF, argsToLocals, Value.category]; done) | rfl) (Ls := #[.val (.ref a1), .val (.long z1), .second]) fun p e s m below meth c s₁ X0 hx hby hml hZ e0 hown hnm hlk hrt => ?_
  have N0 := Fr.nil n0
  have lt_P0 : @LT.lt Nat _ a1 (Array.size h0) := P0.lt
  refine own_ru 1 [(.long z1)] X0 hx hby e19_0_1 rfl rfl ?_
  refine own_st 2 [(.long (1 : Int64)), (.long z1)] (fun t k => XS.lconst X0.here hx rfl (hb hby d19_1) k) ?_
  refine own_ru 3 [(.ref a1), (.long (1 : Int64)), (.long z1)] X0 hx hby e19_2_1 rfl rfl ?_
  refine own_gF X0 hx hZ hown (host := "") (Or.inl (wd46 hw)) Via.refl e0 P0 6 rfl (hb hby d19_3) rfl fun T71 X71 e71 => ?_
  refine own_ru 8 [(.int (lv - (1 : Int32))), (.long (1 : Int64)), (.long z1)] X71 hx hby e19_6_2 rfl rfl ?_
  refine own_st 9 [(.long ((1 : Int64) <<< ((lv - (1 : Int32)) &&& 0x3f).toInt64)), (.long z1)] (fun t k => XS.lshl X71.here hx rfl (hb hby d19_8) rfl k) ?_
  refine own_ru 10 [(.long (z1 &&& ((1 : Int64) <<< ((lv - (1 : Int32)) &&& 0x3f).toInt64)))] X71 hx hby e19_9_1 rfl rfl ?_
  refine own_st 11 [(.long (0 : Int64)), (.long (z1 &&& ((1 : Int64) <<< ((lv - (1 : Int32)) &&& 0x3f).toInt64)))] (fun t k => XS.lconst X71.here hx rfl (hb hby d19_10) k) ?_
  refine own_st 12 [(.int (lcmpW (z1 &&& ((1 : Int64) <<< ((lv - (1 : Int32)) &&& 0x3f).toInt64)) (0 : Int64)))] (fun t k => XS.lcmp X71.here hx rfl (hb hby d19_11) rfl k) ?_
  by_cases hc12 : (z1 &&& ((1 : Int64) <<< ((lv - (1 : Int32)) &&& 0x3f).toInt64)) = (0 : Int64)
  · refine own_iN 15 X71 hx (hb hby d19_12) rfl ((if0 _ _).trans (teq ((lw_eq _ _).mpr hc12)).2) rfl ?_
    refine own_ru 16 [(.int (1 : Int32))] X71 hx hby e19_15_1 rfl rfl ?_
    refine own_go 20 X71 hx (hb hby d19_16) (by decide) (by decide) ?_
    have hq72 : Q19 Z a1 z1 lv h0 n0 (some (.int (nar .boolean (1 : Int32)))) h0 _ := ⟨Or.inl ⟨rfl, hc12⟩, N0, rfl⟩
    exact own_retN X71 hx hlk (t := .boolean) hrt (by simp) (hb hby d19_20) e71 hq72 (by decide) (by decide)
  · refine own_iY 19 X71 hx (hb hby d19_12) rfl ((if0 _ _).trans (feq (fun q => hc12 ((lw_eq _ _).mp q))).2) (by decide) (by decide) ?_
    refine own_ru 20 [(.int (0 : Int32))] X71 hx hby e19_19_1 rfl rfl ?_
    have hq73 : Q19 Z a1 z1 lv h0 n0 (some (.int (nar .boolean (0 : Int32)))) h0 _ := ⟨Or.inr ⟨rfl, hc12⟩, N0, rfl⟩
    exact own_retN X71 hx hlk (t := .boolean) hrt (by simp) (hb hby d19_20) e71 hq73 (by decide) (by decide)
abbrev my21 : MethodName := (⟨"com/example/mullion/mullion/service/DyadicTrie$Node", "toward", "(J)Lcom/example/mullion/mullion/service/DyadicTrie$Node;"⟩ : MethodName)
theorem d21_2 : decode prog_42_method_8_code 2 = .ok (.invokevirtual 39, 3) := by decide +kernel
theorem d21_5 : decode prog_42_method_8_code 5 = .ok (.ifCond .eq 10, 3) := by decide +kernel
theorem d21_9 : decode prog_42_method_8_code 9 = .ok (.getfield 42, 3) := by decide +kernel
theorem d21_12 : decode prog_42_method_8_code 12 = .ok (.goto 7, 3) := by decide +kernel
theorem d21_16 : decode prog_42_method_8_code 16 = .ok (.getfield 46, 3) := by decide +kernel
theorem d21_19 : decode prog_42_method_8_code 19 = .ok (.areturn, 1) := by decide +kernel
theorem e21_0_2 : own_dec prog_42_method_8_code 0 [(.aload_n 0, 1), (.lload_n 1, 1)] = true := by decide +kernel
theorem e21_8_1 : own_dec prog_42_method_8_code 8 [(.aload_n 0, 1)] = true := by decide +kernel
theorem e21_15_1 : own_dec prog_42_method_8_code 15 [(.aload_n 0, 1)] = true := by decide +kernel
def Q21 (Z : State) (a1 : Addr) (z1 : Int64) (lv : Int32) (ul : Value) (uh : Value) (h0 : Heap) (n0 : Nat) (v : Option Value) (h : Heap) (L : List Loc) : Prop := (((own_low lv z1) ∧ v = some ul) ∨ ((¬ own_low lv z1) ∧ v = some uh)) ∧ Fr n0 L ∧ h = h0
set_option maxRecDepth 65536 in
set_option maxHeartbeats 40000000 in
theorem rm21 (l : Launch) (Z : State) (a0 : Array Value) (hw : OW a0 Z) (ws : List Jvm.Cond) (a1 : Addr) (z1 : Int64) (lv : Int32) (ul : Value) (uh : Value) (h0 : Heap) (n0 : Nat) (Z0 : n0 ≤ h0.size) (P0 : ex1 Z h0 a1) (P1 : fl2 Z h0 a1 (.int lv)) (P2 : fl5 Z h0 a1 ul) (P3 : fl6 Z h0 a1 uh) (h_ul : ul.isRef = true) (h_uh : uh.isRef = true) :
    own_Met l my21 prog_42_method_8_code 3 (some (.object "com/example/mullion/mullion/service/DyadicTrie$Node")) ws (own_rm 1 0 0 14) #[(.ref a1), (.long z1)] Z h0 (Q21 Z a1 z1 lv ul uh h0 n0) 0 0 := by
  refine own_body (plainFor_of_name pn_3) (fun m => by first | (simp [entryFrame, mkF, argsToLocals, Value.category]; done) | rfl) (Ls := #[.val (.ref a1), .val (.long z1), .second]) fun p e s m below meth c s₁ X0 hx hby hml hZ e0 hown hnm hlk hrt => ?_
  have N0 := Fr.nil n0
  have lt_P0 : @LT.lt Nat _ a1 (Array.size h0) := P0.lt
  refine own_ru 2 [(.long z1), (.ref a1)] X0 hx hby e21_0_2 rfl rfl ?_
  refine own_cG X0 hx hZ hown (wd88 hw) (wd89 hw) (own_selPriv (mvT hZ (wd40 hw)) (Cond.privateMethod_at (mvP hZ (wd90 hw) (args := #[]))) (mvT hZ (wd89 hw)) (by decide)) (wd90 hw) (by decide) (wd91 hw) (wd41 hw) (rm19 l Z a0 hw [] a1 z1 lv h0 n0 (by omega) P1) e0 P0 [(.long z1)] [] 5 0 (hb hby d21_2) rfl (by rw [hml]; rfl) rfl rfl (lenOf pd_2 rfl) rfl (by decide) fun v74 T74 Lc74 X74 hQ74 => ?_
  obtain ⟨hvc74, N74q, e74⟩ := hQ74
  have N74 := Fr.app N0 N74q
  rcases hvc74 with ⟨rfl, hp2⟩ | ⟨rfl, hp2⟩
  · refine own_iN 8 X74 hx (hb hby d21_5) rfl ((if0 _ _).trans (feq (by decide : ¬ ((1 : Int32) = (0 : Int32)))).1) rfl ?_
    refine own_ru 9 [(.ref a1)] X74 hx hby e21_8_1 rfl rfl ?_
    refine own_gF X74 hx hZ hown (host := "") (Or.inl (wd94 hw)) Via.refl e74 P2 12 rfl (hb hby d21_9) rfl fun T75 X75 e75 => ?_
    refine own_go 19 X75 hx (hb hby d21_12) (by decide) (by decide) ?_
    have hq76 : Q21 Z a1 z1 lv ul uh h0 n0 (some ul) h0 _ := ⟨Or.inl ⟨hp2, rfl⟩, N74, rfl⟩
    exact own_retR X75 hx hlk (w := ul) h_ul hrt rfl (hb hby d21_19) e75 hq76 (by decide) (by decide)
  · refine own_iY 15 X74 hx (hb hby d21_5) rfl ((if0 _ _).trans (teq (by decide : ((0 : Int32) = (0 : Int32)))).1) (by decide) (by decide) ?_
    refine own_ru 16 [(.ref a1)] X74 hx hby e21_15_1 rfl rfl ?_
    refine own_gF X74 hx hZ hown (host := "") (Or.inl (wd92 hw)) Via.refl e74 P3 19 rfl (hb hby d21_16) rfl fun T77 X77 e77 => ?_
    have hq78 : Q21 Z a1 z1 lv ul uh h0 n0 (some uh) h0 _ := ⟨Or.inr (⟨hp2, rfl⟩), N74, rfl⟩
    exact own_retR X77 hx hlk (w := uh) h_uh hrt rfl (hb hby d21_19) e77 hq78 (by decide) (by decide)
abbrev my22 : MethodName := (⟨"com/example/mullion/mullion/service/DyadicTrie$Node", "onlyChild", "()Lcom/example/mullion/mullion/service/DyadicTrie$Node;"⟩ : MethodName)
theorem d22_1 : decode prog_42_method_11_code 1 = .ok (.getfield 42, 3) := by decide +kernel
theorem d22_4 : decode prog_42_method_11_code 4 = .ok (.ifnull 10, 3) := by decide +kernel
theorem d22_8 : decode prog_42_method_11_code 8 = .ok (.getfield 42, 3) := by decide +kernel
theorem d22_11 : decode prog_42_method_11_code 11 = .ok (.goto 7, 3) := by decide +kernel
theorem d22_18 : decode prog_42_method_11_code 18 = .ok (.areturn, 1) := by decide +kernel
theorem e22_0_1 : own_dec prog_42_method_11_code 0 [(.aload_n 0, 1)] = true := by decide +kernel
theorem e22_7_1 : own_dec prog_42_method_11_code 7 [(.aload_n 0, 1)] = true := by decide +kernel
def Q22l (Z : State) (a1 : Addr) (lo : Addr) (h0 : Heap) (n0 : Nat) (v : Option Value) (h : Heap) (L : List Loc) : Prop := v = some (.ref lo) ∧ Fr n0 L ∧ h = h0
set_option maxRecDepth 65536 in
set_option maxHeartbeats 40000000 in
theorem rm22l (l : Launch) (Z : State) (a0 : Array Value) (hw : OW a0 Z) (ws : List Jvm.Cond) (a1 : Addr) (lo : Addr) (h0 : Heap) (n0 : Nat) (Z0 : n0 ≤ h0.size) (P0 : fl5 Z h0 a1 (.ref lo)) :
    own_Met l my22 prog_42_method_11_code 1 (some (.object "com/example/mullion/mullion/service/DyadicTrie$Node")) ws (own_rm 0 0 0 0) #[(.ref a1)] Z h0 (Q22l Z a1 lo h0 n0) 0 0 := by
  refine own_body (plainFor_of_name pn_3) (fun m => by first | (simp [entryFrame, mkF, argsToLocals, Value.category]; done) | rfl) (Ls := #[.val (.ref a1)]) fun p e s m below meth c s₁ X0 hx hby hml hZ e0 hown hnm hlk hrt => ?_
  have N0 := Fr.nil n0
  have lt_P0 : @LT.lt Nat _ a1 (Array.size h0) := P0.lt
  refine own_ru 1 [(.ref a1)] X0 hx hby e22_0_1 rfl rfl ?_
  refine own_gF X0 hx hZ hown (host := "") (Or.inl (wd94 hw)) Via.refl e0 P0 4 rfl (hb hby d22_1) rfl fun T79 X79 e79 => ?_
  refine own_st 7 [] (fun t k => XS.ifnullNo X79.here hx rfl (hb hby d22_4) rfl k) ?_
  refine own_ru 8 [(.ref a1)] X79 hx hby e22_7_1 rfl rfl ?_
  refine own_gF X79 hx hZ hown (host := "") (Or.inl (wd94 hw)) Via.refl e79 P0 11 rfl (hb hby d22_8) rfl fun T80 X80 e80 => ?_
  refine own_go 18 X80 hx (hb hby d22_11) (by decide) (by decide) ?_
  have hq81 : Q22l Z a1 lo h0 n0 (some (.ref lo)) h0 _ := ⟨rfl, N0, rfl⟩
  exact own_retR X80 hx hlk (w := (.ref lo)) rfl hrt rfl (hb hby d22_18) e80 hq81 (by decide) (by decide)
theorem d22_15 : decode prog_42_method_11_code 15 = .ok (.getfield 46, 3) := by decide +kernel
theorem e22_14_1 : own_dec prog_42_method_11_code 14 [(.aload_n 0, 1)] = true := by decide +kernel
def Q22h (Z : State) (a1 : Addr) (uh : Value) (h0 : Heap) (n0 : Nat) (v : Option Value) (h : Heap) (L : List Loc) : Prop := v = some uh ∧ Fr n0 L ∧ h = h0
set_option maxRecDepth 65536 in
set_option maxHeartbeats 40000000 in
theorem rm22h (l : Launch) (Z : State) (a0 : Array Value) (hw : OW a0 Z) (ws : List Jvm.Cond) (a1 : Addr) (uh : Value) (h0 : Heap) (n0 : Nat) (Z0 : n0 ≤ h0.size) (P0 : fl5 Z h0 a1 .null) (P1 : fl6 Z h0 a1 uh) (h_uh : uh.isRef = true) :
    own_Met l my22 prog_42_method_11_code 1 (some (.object "com/example/mullion/mullion/service/DyadicTrie$Node")) ws (own_rm 0 0 0 0) #[(.ref a1)] Z h0 (Q22h Z a1 uh h0 n0) 0 0 := by
  refine own_body (plainFor_of_name pn_3) (fun m => by first | (simp [entryFrame, mkF, argsToLocals, Value.category]; done) | rfl) (Ls := #[.val (.ref a1)]) fun p e s m below meth c s₁ X0 hx hby hml hZ e0 hown hnm hlk hrt => ?_
  have N0 := Fr.nil n0
  have lt_P0 : @LT.lt Nat _ a1 (Array.size h0) := P0.lt
  refine own_ru 1 [(.ref a1)] X0 hx hby e22_0_1 rfl rfl ?_
  refine own_gF X0 hx hZ hown (host := "") (Or.inl (wd94 hw)) Via.refl e0 P0 4 rfl (hb hby d22_1) rfl fun T82 X82 e82 => ?_
  refine own_st 14 [] (fun t k => XS.ifnullYes X82.here hx rfl (pc0 := 4) (pc' := 14) rfl (hb hby d22_4) rfl (by decide) (by decide) k) ?_
  refine own_ru 15 [(.ref a1)] X82 hx hby e22_14_1 rfl rfl ?_
  refine own_gF X82 hx hZ hown (host := "") (Or.inl (wd92 hw)) Via.refl e82 P1 18 rfl (hb hby d22_15) rfl fun T83 X83 e83 => ?_
  have hq84 : Q22h Z a1 uh h0 n0 (some uh) h0 _ := ⟨rfl, N0, rfl⟩
  exact own_retR X83 hx hlk (w := uh) h_uh hrt rfl (hb hby d22_18) e83 hq84 (by decide) (by decide)
abbrev my18 : MethodName := (⟨"com/example/mullion/mullion/service/DyadicTrie$Node", "attach", "(Lcom/example/mullion/mullion/service/DyadicTrie$Node;)V"⟩ : MethodName)
theorem d18_2 : decode prog_42_method_10_code 2 = .ok (.getfield 13, 3) := by decide +kernel
theorem d18_5 : decode prog_42_method_10_code 5 = .ok (.invokevirtual 39, 3) := by decide +kernel
theorem d18_8 : decode prog_42_method_10_code 8 = .ok (.ifCond .eq 11, 3) := by decide +kernel
theorem d18_13 : decode prog_42_method_10_code 13 = .ok (.putfield 42, 3) := by decide +kernel
theorem d18_16 : decode prog_42_method_10_code 16 = .ok (.goto 8, 3) := by decide +kernel
theorem d18_21 : decode prog_42_method_10_code 21 = .ok (.putfield 46, 3) := by decide +kernel
theorem d18_24 : decode prog_42_method_10_code 24 = .ok (.return_, 1) := by decide +kernel
theorem e18_0_2 : own_dec prog_42_method_10_code 0 [(.aload_n 0, 1), (.aload_n 1, 1)] = true := by decide +kernel
theorem e18_11_2 : own_dec prog_42_method_10_code 11 [(.aload_n 0, 1), (.aload_n 1, 1)] = true := by decide +kernel
theorem e18_19_2 : own_dec prog_42_method_10_code 19 [(.aload_n 0, 1), (.aload_n 1, 1)] = true := by decide +kernel
def Q18 (Z : State) (a1 : Addr) (b1 : Addr) (sb : Int64) (lv : Int32) (sv : Int64) (uv : Value) (ul : Value) (uh : Value) (h0 : Heap) (n0 : Nat) (v : Option Value) (h : Heap) (L : List Loc) : Prop := ∃ vl : Value, ∃ vh : Value, v = none ∧ Fr n0 L ∧ Keep h0 h [a1] ∧ ex1 Z h a1 ∧ fl2 Z h a1 (.int lv) ∧ fl3 Z h a1 (.long sv) ∧ fl4 Z h a1 uv ∧ fl5 Z h a1 vl ∧ fl6 Z h a1 vh ∧ (((own_low lv sb) ∧ vl = (.ref b1) ∧ vh = uh) ∨ ((¬ own_low lv sb) ∧ vl = ul ∧ vh = (.ref b1)))
set_option maxRecDepth 65536 in
set_option maxHeartbeats 40000000 in
theorem rm18 (l : Launch) (Z : State) (a0 : Array Value) (hw : OW a0 Z) (ws : List Jvm.Cond) (a1 : Addr) (b1 : Addr) (sb : Int64) (lv : Int32) (sv : Int64) (uv : Value) (ul : Value) (uh : Value) (h0 : Heap) (n0 : Nat) (Z0 : n0 ≤ h0.size) (P0 : ex1 Z h0 a1) (P1 : fl2 Z h0 a1 (.int lv)) (P2 : fl3 Z h0 a1 (.long sv)) (P3 : fl4 Z h0 a1 uv) (P4 : fl5 Z h0 a1 ul) (P5 : fl6 Z h0 a1 uh) (P6 : fl3 Z h0 b1 (.long sb)) (g_a1 : n0 ≤ a1) :
    own_Met l my18 prog_42_method_10_code 2 none ws (own_rm 1 0 0 14) #[(.ref a1), (.ref b1)] Z h0 (Q18 Z a1 b1 sb lv sv uv ul uh h0 n0) 0 0 := by
  refine own_body (plainFor_of_name pn_3) (fun m => by first | (simp [entryFrame, mkF, argsToLocals, Value.category]; done) | rfl) (Ls := #[.val (.ref a1), .val (.ref b1)]) fun p e s m below meth c s₁ X0 hx hby hml hZ e0 hown hnm hlk hrt => ?_
  have N0 := Fr.nil n0
  have lt_P0 : @LT.lt Nat _ a1 (Array.size h0) := P0.lt
  have lt_P6 : @LT.lt Nat _ b1 (Array.size h0) := P6.lt
  refine own_ru 2 [(.ref b1), (.ref a1)] X0 hx hby e18_0_2 rfl rfl ?_
  refine own_gF X0 hx hZ hown (host := "") (Or.inl (wd48 hw)) Via.refl e0 P6 5 rfl (hb hby d18_2) rfl fun T85 X85 e85 => ?_
  refine own_cG X85 hx hZ hown (wd88 hw) (wd89 hw) (own_selPriv (mvT hZ (wd40 hw)) (Cond.privateMethod_at (mvP hZ (wd90 hw) (args := #[]))) (mvT hZ (wd89 hw)) (by decide)) (wd90 hw) (by decide) (wd91 hw) (wd41 hw) (rm19 l Z a0 hw [] a1 sb lv h0 n0 (by omega) P1) e85 P0 [(.long sb)] [] 8 0 (hb hby d18_5) rfl (by rw [hml]; rfl) rfl rfl (lenOf pd_2 rfl) rfl (by decide) fun v86 T86 Lc86 X86 hQ86 => ?_
  obtain ⟨hvc86, N86q, e86⟩ := hQ86
  have N86 := Fr.app N0 N86q
  rcases hvc86 with ⟨rfl, hp5⟩ | ⟨rfl, hp5⟩
  · refine own_iN 11 X86 hx (hb hby d18_8) rfl ((if0 _ _).trans (feq (by decide : ¬ ((1 : Int32) = (0 : Int32)))).1) rfl ?_
    refine own_ru 13 [(.ref b1), (.ref a1)] X86 hx hby e18_11_2 rfl rfl ?_
    refine own_pF X86 hx hZ hown (host := "") (Or.inl (wd94 hw)) Via.refl e86 P4 P0 (Or.inl (wd95 hw)) (wd40 hw) (ty := (.object "com/example/mullion/mullion/service/DyadicTrie$Node")) (by decide) rfl rfl 16 rfl (hb hby d18_13) rfl fun T87 h87 X87 e87 W87 => ?_
    have F87 := Fld.same W87 P4
    have z87 := W87.size
    have KK87 : Keep h0 h87 [a1] := (Keep.refl h0 [a1]).wr W87 (Or.inl (by simp))
    have N87 := Fr.snoc X87 N86 (by omega)
    refine own_go 24 X87 hx (hb hby d18_16) (by decide) (by decide) ?_
    have f89 := (Exa.wr W87 P0)
    have f90 := (Fld.other W87 P1 (Or.inr (slot_ne (Or.inr (wd47 hw)) (Or.inl (wd95 hw)) (by decide) (t := .int) (t' := (.object "com/example/mullion/mullion/service/DyadicTrie$Node")) (by decide) (by decide))))
    have f91 := (Fld.other W87 P2 (Or.inr (slot_ne (Or.inr (wd49 hw)) (Or.inl (wd95 hw)) (by decide) (t := .long) (t' := (.object "com/example/mullion/mullion/service/DyadicTrie$Node")) (by decide) (by decide))))
    have f92 := (Fld.other W87 P3 (Or.inr (slot_ne (Or.inl (wd51 hw)) (Or.inl (wd95 hw)) (by decide) (t := (.object "java/lang/Object")) (t' := (.object "com/example/mullion/mullion/service/DyadicTrie$Node")) (by decide) (by decide))))
    have f93 := (Fld.other W87 P5 (Or.inr (slot_ne (Or.inl (wd93 hw)) (Or.inl (wd95 hw)) (by decide) (t := (.object "com/example/mullion/mullion/service/DyadicTrie$Node")) (t' := (.object "com/example/mullion/mullion/service/DyadicTrie$Node")) (by decide) (by decide))))
    have hq88 : Q18 Z a1 b1 sb lv sv uv ul uh h0 n0 none h87 _ := ⟨(.ref b1), uh, rfl, N87, KK87, f89, f90, f91, f92, F87, f93, Or.inl ⟨hp5, rfl, rfl⟩⟩
    exact own_retV X87 hx hlk hrt (hb hby d18_24) e87 hq88 (by decide) (by decide)
  · refine own_iY 19 X86 hx (hb hby d18_8) rfl ((if0 _ _).trans (teq (by decide : ((0 : Int32) = (0 : Int32)))).1) (by decide) (by decide) ?_
    refine own_ru 21 [(.ref b1), (.ref a1)] X86 hx hby e18_19_2 rfl rfl ?_
    refine own_pF X86 hx hZ hown (host := "") (Or.inl (wd92 hw)) Via.refl e86 P5 P0 (Or.inl (wd93 hw)) (wd40 hw) (ty := (.object "com/example/mullion/mullion/service/DyadicTrie$Node")) (by decide) rfl rfl 24 rfl (hb hby d18_21) rfl fun T94 h94 X94 e94 W94 => ?_
    have F94 := Fld.same W94 P5
    have z94 := W94.size
    have KK94 : Keep h0 h94 [a1] := (Keep.refl h0 [a1]).wr W94 (Or.inl (by simp))
    have N94 := Fr.snoc X94 N86 (by omega)
    have f96 := (Exa.wr W94 P0)
    have f97 := (Fld.other W94 P1 (Or.inr (slot_ne (Or.inr (wd47 hw)) (Or.inl (wd93 hw)) (by decide) (t := .int) (t' := (.object "com/example/mullion/mullion/service/DyadicTrie$Node")) (by decide) (by decide))))
    have f98 := (Fld.other W94 P2 (Or.inr (slot_ne (Or.inr (wd49 hw)) (Or.inl (wd93 hw)) (by decide) (t := .long) (t' := (.object "com/example/mullion/mullion/service/DyadicTrie$Node")) (by decide) (by decide))))
    have f99 := (Fld.other W94 P3 (Or.inr (slot_ne (Or.inl (wd51 hw)) (Or.inl (wd93 hw)) (by decide) (t := (.object "java/lang/Object")) (t' := (.object "com/example/mullion/mullion/service/DyadicTrie$Node")) (by decide) (by decide))))
    have f100 := (Fld.other W94 P4 (Or.inr (slot_ne (Or.inl (wd95 hw)) (Or.inl (wd93 hw)) (by decide) (t := (.object "com/example/mullion/mullion/service/DyadicTrie$Node")) (t' := (.object "com/example/mullion/mullion/service/DyadicTrie$Node")) (by decide) (by decide))))
    have hq95 : Q18 Z a1 b1 sb lv sv uv ul uh h0 n0 none h94 _ := ⟨ul, (.ref b1), rfl, N94, KK94, f96, f97, f98, f99, f100, F94, Or.inr (⟨hp5, rfl, rfl⟩)⟩
    exact own_retV X94 hx hlk hrt (hb hby d18_24) e94 hq95 (by decide) (by decide)
abbrev my10 : MethodName := (⟨"com/example/mullion/mullion/service/DyadicTrie", "link", "(Lcom/example/mullion/mullion/service/DyadicTrie$Node;JLcom/example/mullion/mullion/service/DyadicTrie$Node;)V"⟩ : MethodName)
theorem d10_1 : decode prog_41_method_8_code 1 = .ok (.ifnonnull 12, 3) := by decide +kernel
theorem d10_5 : decode prog_41_method_8_code 5 = .ok (.aload 4, 2) := by decide +kernel
theorem d10_7 : decode prog_41_method_8_code 7 = .ok (.putfield 17, 3) := by decide +kernel
theorem d10_10 : decode prog_41_method_8_code 10 = .ok (.goto 26, 3) := by decide +kernel
theorem d10_36 : decode prog_41_method_8_code 36 = .ok (.return_, 1) := by decide +kernel
theorem e10_0_1 : own_dec prog_41_method_8_code 0 [(.aload_n 1, 1)] = true := by decide +kernel
theorem e10_4_1 : own_dec prog_41_method_8_code 4 [(.aload_n 0, 1)] = true := by decide +kernel
def Q10n (Z : State) (t1 : Addr) (z1 : Int64) (rp : Value) (u0 : Value) (h0 : Heap) (n0 : Nat) (v : Option Value) (h : Heap) (L : List Loc) : Prop := v = none ∧ Fr n0 L ∧ Keep h0 h [t1] ∧ ex7 Z h t1 ∧ fl0 Z h t1 rp
set_option maxRecDepth 65536 in
set_option maxHeartbeats 40000000 in
theorem rm10n (l : Launch) (Z : State) (a0 : Array Value) (hw : OW a0 Z) (ws : List Jvm.Cond) (t1 : Addr) (z1 : Int64) (rp : Value) (u0 : Value) (h0 : Heap) (n0 : Nat) (Z0 : n0 ≤ h0.size) (P0 : ex7 Z h0 t1) (P1 : fl0 Z h0 t1 u0) (g_t1 : n0 ≤ t1) (h_rp : rp.isRef = true) :
    own_Met l my10 prog_41_method_8_code 5 none ws (own_rm 0 0 0 0) #[(.ref t1), .null, (.long z1), rp] Z h0 (Q10n Z t1 z1 rp u0 h0 n0) 0 0 := by
  refine own_body (plainFor_of_name pn_1) (fun m => by first | (simp [entryFrame, mkF, argsToLocals, own_catR, own_catI, own_catJ, own_catN, own_cat1 h_rp]; done) | rfl) (Ls := #[.val (.ref t1), .val .null, .val (.long z1), .second, .val rp]) fun p e s m below meth c s₁ X0 hx hby hml hZ e0 hown hnm hlk hrt => ?_
  have N0 := Fr.nil n0
  have lt_P0 : @LT.lt Nat _ t1 (Array.size h0) := P0.lt
  refine own_ru 1 [.null] X0 hx hby e10_0_1 rfl rfl ?_
  refine own_st 4 [] (fun t k => XS.ifnonnullNo X0.here hx rfl (hb hby d10_1) rfl k) ?_
  refine own_ru 5 [(.ref t1)] X0 hx hby e10_4_1 rfl rfl ?_
  refine own_st 7 [rp, (.ref t1)] (fun t k => XS.aload X0.here hx rfl (hb hby d10_5) rfl h_rp  k) ?_
  refine own_pF X0 hx hZ hown (host := "") (Or.inl (wd14 hw)) Via.refl e0 P1 P0 (Or.inl (wd15 hw)) (wd1 hw) (ty := (.object "com/example/mullion/mullion/service/DyadicTrie$Node")) (by decide) rfl (own_fitR h_rp) 10 rfl (hb hby d10_7) rfl fun T101 h101 X101 e101 W101 => ?_
  have F101 := Fld.same W101 P1
  have z101 := W101.size
  have KK101 : Keep h0 h101 [t1] := (Keep.refl h0 [t1]).wr W101 (Or.inl (by simp))
  have N101 := Fr.snoc X101 N0 (by omega)
  refine own_go 36 X101 hx (hb hby d10_10) (by decide) (by decide) ?_
  have f103 := (Exa.wr W101 P0)
  have hq102 : Q10n Z t1 z1 rp u0 h0 n0 none h101 _ := ⟨rfl, N101, KK101, f103, F101⟩
  exact own_retV X101 hx hlk hrt (hb hby d10_36) e101 hq102 (by decide) (by decide)
theorem d10_15 : decode prog_41_method_8_code 15 = .ok (.invokevirtual 75, 3) := by decide +kernel
theorem d10_18 : decode prog_41_method_8_code 18 = .ok (.ifCond .eq 12, 3) := by decide +kernel
theorem d10_22 : decode prog_41_method_8_code 22 = .ok (.aload 4, 2) := by decide +kernel
theorem d10_24 : decode prog_41_method_8_code 24 = .ok (.putfield 65, 3) := by decide +kernel
theorem d10_27 : decode prog_41_method_8_code 27 = .ok (.goto 9, 3) := by decide +kernel
theorem d10_31 : decode prog_41_method_8_code 31 = .ok (.aload 4, 2) := by decide +kernel
theorem d10_33 : decode prog_41_method_8_code 33 = .ok (.putfield 68, 3) := by decide +kernel
theorem e10_13_2 : own_dec prog_41_method_8_code 13 [(.aload_n 1, 1), (.lload_n 2, 1)] = true := by decide +kernel
theorem e10_21_1 : own_dec prog_41_method_8_code 21 [(.aload_n 1, 1)] = true := by decide +kernel
theorem e10_30_1 : own_dec prog_41_method_8_code 30 [(.aload_n 1, 1)] = true := by decide +kernel
def Q10p (Z : State) (t1 : Addr) (p1 : Addr) (z1 : Int64) (rp : Value) (lv : Int32) (sv : Int64) (uv : Value) (ul : Value) (uh : Value) (h0 : Heap) (n0 : Nat) (v : Option Value) (h : Heap) (L : List Loc) : Prop := ∃ vl : Value, ∃ vh : Value, v = none ∧ Fr n0 L ∧ Keep h0 h [p1] ∧ ex1 Z h p1 ∧ fl2 Z h p1 (.int lv) ∧ fl3 Z h p1 (.long sv) ∧ fl4 Z h p1 uv ∧ fl5 Z h p1 vl ∧ fl6 Z h p1 vh ∧ (((own_low lv z1) ∧ vl = rp ∧ vh = uh) ∨ ((¬ own_low lv z1) ∧ vl = ul ∧ vh = rp))
set_option maxRecDepth 65536 in
set_option maxHeartbeats 40000000 in
theorem rm10p (l : Launch) (Z : State) (a0 : Array Value) (hw : OW a0 Z) (ws : List Jvm.Cond) (t1 : Addr) (p1 : Addr) (z1 : Int64) (rp : Value) (lv : Int32) (sv : Int64) (uv : Value) (ul : Value) (uh : Value) (h0 : Heap) (n0 : Nat) (Z0 : n0 ≤ h0.size) (P0 : ex1 Z h0 p1) (P1 : fl2 Z h0 p1 (.int lv)) (P2 : fl3 Z h0 p1 (.long sv)) (P3 : fl4 Z h0 p1 uv) (P4 : fl5 Z h0 p1 ul) (P5 : fl6 Z h0 p1 uh) (g_p1 : n0 ≤ p1) (h_rp : rp.isRef = true) :
    own_Met l my10 prog_41_method_8_code 5 none ws (own_rm 1 0 0 14) #[(.ref t1), (.ref p1), (.long z1), rp] Z h0 (Q10p Z t1 p1 z1 rp lv sv uv ul uh h0 n0) 0 0 := by
  refine own_body (plainFor_of_name pn_1) (fun m => by first | (simp [entryFrame, mkF, argsToLocals, own_catR, own_catI, own_catJ, own_catN, own_cat1 h_rp]; done) | rfl) (Ls := #[.val (.ref t1), .val (.ref p1), .val (.long z1), .second, .val rp]) fun p e s m below meth c s₁ X0 hx hby hml hZ e0 hown hnm hlk hrt => ?_
  have N0 := Fr.nil n0
  have lt_P0 : @LT.lt Nat _ p1 (Array.size h0) := P0.lt
  refine own_ru 1 [(.ref p1)] X0 hx hby e10_0_1 rfl rfl ?_
  refine own_st 13 [] (fun t k => XS.ifnonnullYes X0.here hx rfl (pc0 := 1) (pc' := 13) rfl (hb hby d10_1) rfl (by decide) (by decide) k) ?_
  refine own_ru 15 [(.long z1), (.ref p1)] X0 hx hby e10_13_2 rfl rfl ?_
  refine own_cR X0 hx hZ hown (wd111 hw) (wd89 hw) (wd90 hw) (wd40 hw) (by decide) (wd91 hw) (wd41 hw) (rm19 l Z a0 hw [] p1 z1 lv h0 n0 (by omega) P1) e0 P0 [(.long z1)] [] 18 0 (hb hby d10_15) rfl (by rw [hml]; rfl) rfl rfl (lenOf pd_2 rfl) rfl (by decide) fun v104 T104 Lc104 X104 hQ104 => ?_
  obtain ⟨hvc104, N104q, e104⟩ := hQ104
  have N104 := Fr.app N0 N104q
  rcases hvc104 with ⟨rfl, hp15⟩ | ⟨rfl, hp15⟩
  · refine own_iN 21 X104 hx (hb hby d10_18) rfl ((if0 _ _).trans (feq (by decide : ¬ ((1 : Int32) = (0 : Int32)))).1) rfl ?_
    refine own_ru 22 [(.ref p1)] X104 hx hby e10_21_1 rfl rfl ?_
    refine own_st 24 [rp, (.ref p1)] (fun t k => XS.aload X104.here hx rfl (hb hby d10_22) rfl h_rp  k) ?_
    refine own_pR X104 hx hZ hown (wd106 hw) e104 P4 P0 (wd95 hw) (wd40 hw) (ty := (.object "com/example/mullion/mullion/service/DyadicTrie$Node")) (by decide) rfl (own_fitR h_rp) 27 rfl (hb hby d10_24) rfl fun T105 h105 X105 e105 W105 => ?_
    have F105 := Fld.same W105 P4
    have z105 := W105.size
    have KK105 : Keep h0 h105 [p1] := (Keep.refl h0 [p1]).wr W105 (Or.inl (by simp))
    have N105 := Fr.snoc X105 N104 (by omega)
    refine own_go 36 X105 hx (hb hby d10_27) (by decide) (by decide) ?_
    have f107 := (Exa.wr W105 P0)
    have f108 := (Fld.other W105 P1 (Or.inr (slot_ne (Or.inr (wd47 hw)) (Or.inl (wd95 hw)) (by decide) (t := .int) (t' := (.object "com/example/mullion/mullion/service/DyadicTrie$Node")) (by decide) (by decide))))
    have f109 := (Fld.other W105 P2 (Or.inr (slot_ne (Or.inr (wd49 hw)) (Or.inl (wd95 hw)) (by decide) (t := .long) (t' := (.object "com/example/mullion/mullion/service/DyadicTrie$Node")) (by decide) (by decide))))
    have f110 := (Fld.other W105 P3 (Or.inr (slot_ne (Or.inl (wd51 hw)) (Or.inl (wd95 hw)) (by decide) (t := (.object "java/lang/Object")) (t' := (.object "com/example/mullion/mullion/service/DyadicTrie$Node")) (by decide) (by decide))))
    have f111 := (Fld.other W105 P5 (Or.inr (slot_ne (Or.inl (wd93 hw)) (Or.inl (wd95 hw)) (by decide) (t := (.object "com/example/mullion/mullion/service/DyadicTrie$Node")) (t' := (.object "com/example/mullion/mullion/service/DyadicTrie$Node")) (by decide) (by decide))))
    have hq106 : Q10p Z t1 p1 z1 rp lv sv uv ul uh h0 n0 none h105 _ := ⟨rp, uh, rfl, N105, KK105, f107, f108, f109, f110, F105, f111, Or.inl ⟨hp15, rfl, rfl⟩⟩
    exact own_retV X105 hx hlk hrt (hb hby d10_36) e105 hq106 (by decide) (by decide)
  · refine own_iY 30 X104 hx (hb hby d10_18) rfl ((if0 _ _).trans (teq (by decide : ((0 : Int32) = (0 : Int32)))).1) (by decide) (by decide) ?_
    refine own_ru 31 [(.ref p1)] X104 hx hby e10_30_1 rfl rfl ?_
    refine own_st 33 [rp, (.ref p1)] (fun t k => XS.aload X104.here hx rfl (hb hby d10_31) rfl h_rp  k) ?_
    refine own_pR X104 hx hZ hown (wd112 hw) e104 P5 P0 (wd93 hw) (wd40 hw) (ty := (.object "com/example/mullion/mullion/service/DyadicTrie$Node")) (by decide) rfl (own_fitR h_rp) 36 rfl (hb hby d10_33) rfl fun T112 h112 X112 e112 W112 => ?_
    have F112 := Fld.same W112 P5
    have z112 := W112.size
    have KK112 : Keep h0 h112 [p1] := (Keep.refl h0 [p1]).wr W112 (Or.inl (by simp))
    have N112 := Fr.snoc X112 N104 (by omega)
    have f114 := (Exa.wr W112 P0)
    have f115 := (Fld.other W112 P1 (Or.inr (slot_ne (Or.inr (wd47 hw)) (Or.inl (wd93 hw)) (by decide) (t := .int) (t' := (.object "com/example/mullion/mullion/service/DyadicTrie$Node")) (by decide) (by decide))))
    have f116 := (Fld.other W112 P2 (Or.inr (slot_ne (Or.inr (wd49 hw)) (Or.inl (wd93 hw)) (by decide) (t := .long) (t' := (.object "com/example/mullion/mullion/service/DyadicTrie$Node")) (by decide) (by decide))))
    have f117 := (Fld.other W112 P3 (Or.inr (slot_ne (Or.inl (wd51 hw)) (Or.inl (wd93 hw)) (by decide) (t := (.object "java/lang/Object")) (t' := (.object "com/example/mullion/mullion/service/DyadicTrie$Node")) (by decide) (by decide))))
    have f118 := (Fld.other W112 P4 (Or.inr (slot_ne (Or.inl (wd95 hw)) (Or.inl (wd93 hw)) (by decide) (t := (.object "com/example/mullion/mullion/service/DyadicTrie$Node")) (t' := (.object "com/example/mullion/mullion/service/DyadicTrie$Node")) (by decide) (by decide))))
    have hq113 : Q10p Z t1 p1 z1 rp lv sv uv ul uh h0 n0 none h112 _ := ⟨ul, rp, rfl, N112, KK112, f114, f115, f116, f117, f118, F112, Or.inr (⟨hp15, rfl, rfl⟩)⟩
    exact own_retV X112 hx hlk hrt (hb hby d10_36) e112 hq113 (by decide) (by decide)
abbrev my17 : MethodName := (⟨"java/lang/Integer", "numberOfLeadingZeros", "(I)I"⟩ : MethodName)
theorem d17_1 : decode jdk_33_method_47_code 1 = .ok (.ifCond .gt 14, 3) := by decide +kernel
theorem d17_5 : decode jdk_33_method_47_code 5 = .ok (.ifCond .ne 8, 3) := by decide +kernel
theorem d17_14 : decode jdk_33_method_47_code 14 = .ok (.ireturn, 1) := by decide +kernel
theorem d17_19 : decode jdk_33_method_47_code 19 = .ok (.ldc_w 264, 3) := by decide +kernel
theorem d17_22 : decode jdk_33_method_47_code 22 = .ok (.if_icmp .lt 11, 3) := by decide +kernel
theorem d17_37 : decode jdk_33_method_47_code 37 = .ok (.if_icmp .lt 11, 3) := by decide +kernel
theorem d17_51 : decode jdk_33_method_47_code 51 = .ok (.if_icmp .lt 10, 3) := by decide +kernel
theorem d17_63 : decode jdk_33_method_47_code 63 = .ok (.if_icmp .lt 10, 3) := by decide +kernel
theorem d17_78 : decode jdk_33_method_47_code 78 = .ok (.ireturn, 1) := by decide +kernel
theorem e17_0_1 : own_dec jdk_33_method_47_code 0 [(.iload_n 0, 1)] = true := by decide +kernel
theorem e17_15_3 : own_dec jdk_33_method_47_code 15 [(.bipush 31, 2), (.istore_n 1, 1), (.iload_n 0, 1)] = true := by decide +kernel
theorem e17_33_2 : own_dec jdk_33_method_47_code 33 [(.iload_n 0, 1), (.sipush 256, 3)] = true := by decide +kernel
theorem e17_48_2 : own_dec jdk_33_method_47_code 48 [(.iload_n 0, 1), (.bipush 16, 2)] = true := by decide +kernel
theorem e17_61_2 : own_dec jdk_33_method_47_code 61 [(.iload_n 0, 1), (.iconst 4, 1)] = true := by decide +kernel
theorem e17_73_5 : own_dec jdk_33_method_47_code 73 [(.iload_n 1, 1), (.iload_n 0, 1), (.iconst 1, 1), (.iushr, 1), (.isub, 1)] = true := by decide +kernel
theorem e17_66_4 : own_dec jdk_33_method_47_code 66 [(.iinc 1 (-2), 3), (.iload_n 0, 1), (.iconst 2, 1), (.iushr, 1)] = true := by decide +kernel
theorem e17_72_6 : own_dec jdk_33_method_47_code 72 [(.istore_n 0, 1), (.iload_n 1, 1), (.iload_n 0, 1), (.iconst 1, 1), (.iushr, 1), (.isub, 1)] = true := by decide +kernel
theorem e17_54_4 : own_dec jdk_33_method_47_code 54 [(.iinc 1 (-4), 3), (.iload_n 0, 1), (.iconst 4, 1), (.iushr, 1)] = true := by decide +kernel
theorem e17_60_3 : own_dec jdk_33_method_47_code 60 [(.istore_n 0, 1), (.iload_n 0, 1), (.iconst 4, 1)] = true := by decide +kernel
theorem e17_40_4 : own_dec jdk_33_method_47_code 40 [(.iinc 1 (-8), 3), (.iload_n 0, 1), (.bipush 8, 2), (.iushr, 1)] = true := by decide +kernel
theorem e17_47_3 : own_dec jdk_33_method_47_code 47 [(.istore_n 0, 1), (.iload_n 0, 1), (.bipush 16, 2)] = true := by decide +kernel
theorem e17_25_4 : own_dec jdk_33_method_47_code 25 [(.iinc 1 (-16), 3), (.iload_n 0, 1), (.bipush 16, 2), (.iushr, 1)] = true := by decide +kernel
theorem e17_32_3 : own_dec jdk_33_method_47_code 32 [(.istore_n 0, 1), (.iload_n 0, 1), (.sipush 256, 3)] = true := by decide +kernel
theorem e17_4_1 : own_dec jdk_33_method_47_code 4 [(.iload_n 0, 1)] = true := by decide +kernel
theorem e17_13_1 : own_dec jdk_33_method_47_code 13 [(.iconst 0, 1)] = true := by decide +kernel
def Q17 (Z : State) (q : Int32) (h0 : Heap) (n0 : Nat) (v : Option Value) (h : Heap) (L : List Loc) : Prop := ∃ r : Int32, v = some (.int r) ∧ Fr n0 L ∧ h = h0 ∧ (own_nz q r)
set_option maxRecDepth 65536 in
set_option maxHeartbeats 40000000 in
theorem rm17 (l : Launch) (Z : State) (a0 : Array Value) (hw : OW a0 Z) (ws : List Jvm.Cond) (q : Int32) (h0 : Heap) (n0 : Nat) (Z0 : n0 ≤ h0.size) (hq0 : ¬ q = 0) :
    own_Met l my17 jdk_33_method_47_code 2 (some .int) ws (own_rm 0 0 0 0) #[(.int q)] Z h0 (Q17 Z q h0 n0) 0 0 := by
  refine own_body (plainFor_of_name pn_0) (fun m => by first | (simp [entryFrame, mkF, argsToLocals, Value.category]; done) | rfl) (Ls := #[.val (.int q), .unset]) fun p e s m below meth c s₁ X0 hx hby hml hZ e0 hown hnm hlk hrt => ?_
  have N0 := Fr.nil n0
  refine own_ru 1 [(.int q)] X0 hx hby e17_0_1 rfl rfl ?_
  by_cases hc1 : (0 : Int32) < q
  · refine own_iY 15 X0 hx (hb hby d17_1) rfl ((if0 _ _).trans (tlt hc1).2.2.1) (by decide) (by decide) ?_
    refine own_rl 19 #[.val (.int q), .val (.int (31 : Int32))] [(.int q)] X0 hx hby e17_15_3 rfl rfl ?_
    refine own_st 22 [(.int (65536 : Int32)), (.int q)] (X0.ldcwInt hx hown (mvT hZ (wd118 hw)) (g := (mkF m 19 #[.val (.int q), .val (.int (31 : Int32))] [(.int q)])) rfl (hb hby d17_19)) ?_
    by_cases hc22 : q < (65536 : Int32)
    · refine own_kY 33 X0 hx (hb hby d17_22) rfl (tlt hc22).1 (by decide) (by decide) ?_
      refine own_ru 37 [(.int (256 : Int32)), (.int q)] X0 hx hby e17_33_2 rfl rfl ?_
      by_cases hc37 : q < (256 : Int32)
      · refine own_kY 48 X0 hx (hb hby d17_37) rfl (tlt hc37).1 (by decide) (by decide) ?_
        refine own_ru 51 [(.int (16 : Int32)), (.int q)] X0 hx hby e17_48_2 rfl rfl ?_
        by_cases hc51 : q < (16 : Int32)
        · refine own_kY 61 X0 hx (hb hby d17_51) rfl (tlt hc51).1 (by decide) (by decide) ?_
          refine own_ru 63 [(.int (4 : Int32)), (.int q)] X0 hx hby e17_61_2 rfl rfl ?_
          by_cases hc63 : q < (4 : Int32)
          · refine own_kY 73 X0 hx (hb hby d17_63) rfl (tlt hc63).1 (by decide) (by decide) ?_
            refine own_ru 78 [(.int ((31 : Int32) - ((q.toUInt32 >>> ((1 : Int32) &&& 31).toUInt32).toInt32)))] X0 hx hby e17_73_5 rfl rfl ?_
            have b1 := Int32.lt_iff_toInt_lt.mp hc1
            have k0 : (0 : Int32).toInt = 0 := rfl
            have k1 : (65536 : Int32).toInt = 65536 := rfl
            have k2 : (256 : Int32).toInt = 256 := rfl
            have k3 : (16 : Int32).toInt = 16 := rfl
            have k4 : (4 : Int32).toInt = 4 := rfl
            have rq := rng32 q
            have b22 : q.toInt < (65536 : Int32).toInt := Int32.lt_iff_toInt_lt.mp hc22
            have b37 : q.toInt < (256 : Int32).toInt := Int32.lt_iff_toInt_lt.mp hc37
            have b51 : q.toInt < (16 : Int32).toInt := Int32.lt_iff_toInt_lt.mp hc51
            have b63 : q.toInt < (4 : Int32).toInt := Int32.lt_iff_toInt_lt.mp hc63
            have psh : ((2 ^ 0 : Nat) : Int) = 1 := rfl
            have hq119 : Q17 Z q h0 n0 (some (.int ((31 : Int32) - ((q.toUInt32 >>> ((1 : Int32) &&& 31).toUInt32).toInt32)))) h0 _ := ⟨((31 : Int32) - ((q.toUInt32 >>> ((1 : Int32) &&& 31).toUInt32).toInt32)), rfl, N0, rfl, (own_nzF (q := q) (x := q) (n := (31 : Int32)) 0 (by decide) (by decide) (by rw [psh]; omega) (by rw [psh]; omega) ⟨by omega, by omega⟩)⟩
            exact own_retI X0 hx hlk hrt (hb hby d17_78) e0 hq119 (by decide) (by decide)
          · refine own_kN 66 X0 hx (hb hby d17_63) rfl (flt hc63).1 rfl ?_
            refine own_rl 72 #[.val (.int q), .val (.int (29 : Int32))] [(.int ((q.toUInt32 >>> ((2 : Int32) &&& 31).toUInt32).toInt32))] X0 hx hby e17_66_4 rfl rfl ?_
            obtain ⟨v72, hv72⟩ : ∃ z : Int32, z = ((q.toUInt32 >>> ((2 : Int32) &&& 31).toUInt32).toInt32) := ⟨_, rfl⟩
            rw [← hv72]
            refine own_rl 78 #[.val (.int v72), .val (.int (29 : Int32))] [(.int ((29 : Int32) - ((v72.toUInt32 >>> ((1 : Int32) &&& 31).toUInt32).toInt32)))] X0 hx hby e17_72_6 rfl rfl ?_
            have b1 := Int32.lt_iff_toInt_lt.mp hc1
            have k0 : (0 : Int32).toInt = 0 := rfl
            have k1 : (65536 : Int32).toInt = 65536 := rfl
            have k2 : (256 : Int32).toInt = 256 := rfl
            have k3 : (16 : Int32).toInt = 16 := rfl
            have k4 : (4 : Int32).toInt = 4 := rfl
            have rq := rng32 q
            have b22 : q.toInt < (65536 : Int32).toInt := Int32.lt_iff_toInt_lt.mp hc22
            have b37 : q.toInt < (256 : Int32).toInt := Int32.lt_iff_toInt_lt.mp hc37
            have b51 : q.toInt < (16 : Int32).toInt := Int32.lt_iff_toInt_lt.mp hc51
            have b63 : ¬ (q.toInt < (4 : Int32).toInt) := fun z => hc63 (Int32.lt_iff_toInt_lt.mpr z)
            have e72 := own_us 2 (q := 2) (by decide) (by decide) hv72 (by omega)
            have p72 : ((2 ^ 2 : Nat) : Int) = 4 := rfl
            rw [p72] at e72
            have psh : ((2 ^ 2 : Nat) : Int) = 4 := rfl
            have hq120 : Q17 Z q h0 n0 (some (.int ((29 : Int32) - ((v72.toUInt32 >>> ((1 : Int32) &&& 31).toUInt32).toInt32)))) h0 _ := ⟨((29 : Int32) - ((v72.toUInt32 >>> ((1 : Int32) &&& 31).toUInt32).toInt32)), rfl, N0, rfl, (own_nzF (q := q) (x := v72) (n := (29 : Int32)) 2 (by decide) (by decide) (by rw [psh]; omega) (by rw [psh]; omega) ⟨by omega, by omega⟩)⟩
            exact own_retI X0 hx hlk hrt (hb hby d17_78) e0 hq120 (by decide) (by decide)
        · refine own_kN 54 X0 hx (hb hby d17_51) rfl (flt hc51).1 rfl ?_
          refine own_rl 60 #[.val (.int q), .val (.int (27 : Int32))] [(.int ((q.toUInt32 >>> ((4 : Int32) &&& 31).toUInt32).toInt32))] X0 hx hby e17_54_4 rfl rfl ?_
          obtain ⟨v60, hv60⟩ : ∃ z : Int32, z = ((q.toUInt32 >>> ((4 : Int32) &&& 31).toUInt32).toInt32) := ⟨_, rfl⟩
          rw [← hv60]
          refine own_rl 63 #[.val (.int v60), .val (.int (27 : Int32))] [(.int (4 : Int32)), (.int v60)] X0 hx hby e17_60_3 rfl rfl ?_
          by_cases hc63 : v60 < (4 : Int32)
          · refine own_kY 73 X0 hx (hb hby d17_63) rfl (tlt hc63).1 (by decide) (by decide) ?_
            refine own_ru 78 [(.int ((27 : Int32) - ((v60.toUInt32 >>> ((1 : Int32) &&& 31).toUInt32).toInt32)))] X0 hx hby e17_73_5 rfl rfl ?_
            have b1 := Int32.lt_iff_toInt_lt.mp hc1
            have k0 : (0 : Int32).toInt = 0 := rfl
            have k1 : (65536 : Int32).toInt = 65536 := rfl
            have k2 : (256 : Int32).toInt = 256 := rfl
            have k3 : (16 : Int32).toInt = 16 := rfl
            have k4 : (4 : Int32).toInt = 4 := rfl
            have rq := rng32 q
            have b22 : q.toInt < (65536 : Int32).toInt := Int32.lt_iff_toInt_lt.mp hc22
            have b37 : q.toInt < (256 : Int32).toInt := Int32.lt_iff_toInt_lt.mp hc37
            have b51 : ¬ (q.toInt < (16 : Int32).toInt) := fun z => hc51 (Int32.lt_iff_toInt_lt.mpr z)
            have e60 := own_us 4 (q := 4) (by decide) (by decide) hv60 (by omega)
            have p60 : ((2 ^ 4 : Nat) : Int) = 16 := rfl
            rw [p60] at e60
            have b63 : v60.toInt < (4 : Int32).toInt := Int32.lt_iff_toInt_lt.mp hc63
            have psh : ((2 ^ 4 : Nat) : Int) = 16 := rfl
            have hq121 : Q17 Z q h0 n0 (some (.int ((27 : Int32) - ((v60.toUInt32 >>> ((1 : Int32) &&& 31).toUInt32).toInt32)))) h0 _ := ⟨((27 : Int32) - ((v60.toUInt32 >>> ((1 : Int32) &&& 31).toUInt32).toInt32)), rfl, N0, rfl, (own_nzF (q := q) (x := v60) (n := (27 : Int32)) 4 (by decide) (by decide) (by rw [psh]; omega) (by rw [psh]; omega) ⟨by omega, by omega⟩)⟩
            exact own_retI X0 hx hlk hrt (hb hby d17_78) e0 hq121 (by decide) (by decide)
          · refine own_kN 66 X0 hx (hb hby d17_63) rfl (flt hc63).1 rfl ?_
            refine own_rl 72 #[.val (.int v60), .val (.int (25 : Int32))] [(.int ((v60.toUInt32 >>> ((2 : Int32) &&& 31).toUInt32).toInt32))] X0 hx hby e17_66_4 rfl rfl ?_
            obtain ⟨v72, hv72⟩ : ∃ z : Int32, z = ((v60.toUInt32 >>> ((2 : Int32) &&& 31).toUInt32).toInt32) := ⟨_, rfl⟩
            rw [← hv72]
            refine own_rl 78 #[.val (.int v72), .val (.int (25 : Int32))] [(.int ((25 : Int32) - ((v72.toUInt32 >>> ((1 : Int32) &&& 31).toUInt32).toInt32)))] X0 hx hby e17_72_6 rfl rfl ?_
            have b1 := Int32.lt_iff_toInt_lt.mp hc1
            have k0 : (0 : Int32).toInt = 0 := rfl
            have k1 : (65536 : Int32).toInt = 65536 := rfl
            have k2 : (256 : Int32).toInt = 256 := rfl
            have k3 : (16 : Int32).toInt = 16 := rfl
            have k4 : (4 : Int32).toInt = 4 := rfl
            have rq := rng32 q
            have b22 : q.toInt < (65536 : Int32).toInt := Int32.lt_iff_toInt_lt.mp hc22
            have b37 : q.toInt < (256 : Int32).toInt := Int32.lt_iff_toInt_lt.mp hc37
            have b51 : ¬ (q.toInt < (16 : Int32).toInt) := fun z => hc51 (Int32.lt_iff_toInt_lt.mpr z)
            have e60 := own_us 4 (q := 4) (by decide) (by decide) hv60 (by omega)
            have p60 : ((2 ^ 4 : Nat) : Int) = 16 := rfl
            rw [p60] at e60
            have b63 : ¬ (v60.toInt < (4 : Int32).toInt) := fun z => hc63 (Int32.lt_iff_toInt_lt.mpr z)
            have e72 := own_us 2 (q := 2) (by decide) (by decide) hv72 (by omega)
            have p72 : ((2 ^ 2 : Nat) : Int) = 4 := rfl
            rw [p72] at e72
            have psh : ((2 ^ 6 : Nat) : Int) = 64 := rfl
            have hq122 : Q17 Z q h0 n0 (some (.int ((25 : Int32) - ((v72.toUInt32 >>> ((1 : Int32) &&& 31).toUInt32).toInt32)))) h0 _ := ⟨((25 : Int32) - ((v72.toUInt32 >>> ((1 : Int32) &&& 31).toUInt32).toInt32)), rfl, N0, rfl, (own_nzF (q := q) (x := v72) (n := (25 : Int32)) 6 (by decide) (by decide) (by rw [psh]; omega) (by rw [psh]; omega) ⟨by omega, by omega⟩)⟩
            exact own_retI X0 hx hlk hrt (hb hby d17_78) e0 hq122 (by decide) (by decide)
      · refine own_kN 40 X0 hx (hb hby d17_37) rfl (flt hc37).1 rfl ?_
        refine own_rl 47 #[.val (.int q), .val (.int (23 : Int32))] [(.int ((q.toUInt32 >>> ((8 : Int32) &&& 31).toUInt32).toInt32))] X0 hx hby e17_40_4 rfl rfl ?_
        obtain ⟨v47, hv47⟩ : ∃ z : Int32, z = ((q.toUInt32 >>> ((8 : Int32) &&& 31).toUInt32).toInt32) := ⟨_, rfl⟩
        rw [← hv47]
        refine own_rl 51 #[.val (.int v47), .val (.int (23 : Int32))] [(.int (16 : Int32)), (.int v47)] X0 hx hby e17_47_3 rfl rfl ?_
        by_cases hc51 : v47 < (16 : Int32)
        · refine own_kY 61 X0 hx (hb hby d17_51) rfl (tlt hc51).1 (by decide) (by decide) ?_
          refine own_ru 63 [(.int (4 : Int32)), (.int v47)] X0 hx hby e17_61_2 rfl rfl ?_
          by_cases hc63 : v47 < (4 : Int32)
          · refine own_kY 73 X0 hx (hb hby d17_63) rfl (tlt hc63).1 (by decide) (by decide) ?_
            refine own_ru 78 [(.int ((23 : Int32) - ((v47.toUInt32 >>> ((1 : Int32) &&& 31).toUInt32).toInt32)))] X0 hx hby e17_73_5 rfl rfl ?_
            have b1 := Int32.lt_iff_toInt_lt.mp hc1
            have k0 : (0 : Int32).toInt = 0 := rfl
            have k1 : (65536 : Int32).toInt = 65536 := rfl
            have k2 : (256 : Int32).toInt = 256 := rfl
            have k3 : (16 : Int32).toInt = 16 := rfl
            have k4 : (4 : Int32).toInt = 4 := rfl
            have rq := rng32 q
            have b22 : q.toInt < (65536 : Int32).toInt := Int32.lt_iff_toInt_lt.mp hc22
            have b37 : ¬ (q.toInt < (256 : Int32).toInt) := fun z => hc37 (Int32.lt_iff_toInt_lt.mpr z)
            have e47 := own_us 8 (q := 8) (by decide) (by decide) hv47 (by omega)
            have p47 : ((2 ^ 8 : Nat) : Int) = 256 := rfl
            rw [p47] at e47
            have b51 : v47.toInt < (16 : Int32).toInt := Int32.lt_iff_toInt_lt.mp hc51
            have b63 : v47.toInt < (4 : Int32).toInt := Int32.lt_iff_toInt_lt.mp hc63
            have psh : ((2 ^ 8 : Nat) : Int) = 256 := rfl
            have hq123 : Q17 Z q h0 n0 (some (.int ((23 : Int32) - ((v47.toUInt32 >>> ((1 : Int32) &&& 31).toUInt32).toInt32)))) h0 _ := ⟨((23 : Int32) - ((v47.toUInt32 >>> ((1 : Int32) &&& 31).toUInt32).toInt32)), rfl, N0, rfl, (own_nzF (q := q) (x := v47) (n := (23 : Int32)) 8 (by decide) (by decide) (by rw [psh]; omega) (by rw [psh]; omega) ⟨by omega, by omega⟩)⟩
            exact own_retI X0 hx hlk hrt (hb hby d17_78) e0 hq123 (by decide) (by decide)
          · refine own_kN 66 X0 hx (hb hby d17_63) rfl (flt hc63).1 rfl ?_
            refine own_rl 72 #[.val (.int v47), .val (.int (21 : Int32))] [(.int ((v47.toUInt32 >>> ((2 : Int32) &&& 31).toUInt32).toInt32))] X0 hx hby e17_66_4 rfl rfl ?_
            obtain ⟨v72, hv72⟩ : ∃ z : Int32, z = ((v47.toUInt32 >>> ((2 : Int32) &&& 31).toUInt32).toInt32) := ⟨_, rfl⟩
            rw [← hv72]
            refine own_rl 78 #[.val (.int v72), .val (.int (21 : Int32))] [(.int ((21 : Int32) - ((v72.toUInt32 >>> ((1 : Int32) &&& 31).toUInt32).toInt32)))] X0 hx hby e17_72_6 rfl rfl ?_
            have b1 := Int32.lt_iff_toInt_lt.mp hc1
            have k0 : (0 : Int32).toInt = 0 := rfl
            have k1 : (65536 : Int32).toInt = 65536 := rfl
            have k2 : (256 : Int32).toInt = 256 := rfl
            have k3 : (16 : Int32).toInt = 16 := rfl
            have k4 : (4 : Int32).toInt = 4 := rfl
            have rq := rng32 q
            have b22 : q.toInt < (65536 : Int32).toInt := Int32.lt_iff_toInt_lt.mp hc22
            have b37 : ¬ (q.toInt < (256 : Int32).toInt) := fun z => hc37 (Int32.lt_iff_toInt_lt.mpr z)
            have e47 := own_us 8 (q := 8) (by decide) (by decide) hv47 (by omega)
            have p47 : ((2 ^ 8 : Nat) : Int) = 256 := rfl
            rw [p47] at e47
            have b51 : v47.toInt < (16 : Int32).toInt := Int32.lt_iff_toInt_lt.mp hc51
            have b63 : ¬ (v47.toInt < (4 : Int32).toInt) := fun z => hc63 (Int32.lt_iff_toInt_lt.mpr z)
            have e72 := own_us 2 (q := 2) (by decide) (by decide) hv72 (by omega)
            have p72 : ((2 ^ 2 : Nat) : Int) = 4 := rfl
            rw [p72] at e72
            have psh : ((2 ^ 10 : Nat) : Int) = 1024 := rfl
            have hq124 : Q17 Z q h0 n0 (some (.int ((21 : Int32) - ((v72.toUInt32 >>> ((1 : Int32) &&& 31).toUInt32).toInt32)))) h0 _ := ⟨((21 : Int32) - ((v72.toUInt32 >>> ((1 : Int32) &&& 31).toUInt32).toInt32)), rfl, N0, rfl, (own_nzF (q := q) (x := v72) (n := (21 : Int32)) 10 (by decide) (by decide) (by rw [psh]; omega) (by rw [psh]; omega) ⟨by omega, by omega⟩)⟩
            exact own_retI X0 hx hlk hrt (hb hby d17_78) e0 hq124 (by decide) (by decide)
        · refine own_kN 54 X0 hx (hb hby d17_51) rfl (flt hc51).1 rfl ?_
          refine own_rl 60 #[.val (.int v47), .val (.int (19 : Int32))] [(.int ((v47.toUInt32 >>> ((4 : Int32) &&& 31).toUInt32).toInt32))] X0 hx hby e17_54_4 rfl rfl ?_
          obtain ⟨v60, hv60⟩ : ∃ z : Int32, z = ((v47.toUInt32 >>> ((4 : Int32) &&& 31).toUInt32).toInt32) := ⟨_, rfl⟩
          rw [← hv60]
          refine own_rl 63 #[.val (.int v60), .val (.int (19 : Int32))] [(.int (4 : Int32)), (.int v60)] X0 hx hby e17_60_3 rfl rfl ?_
          by_cases hc63 : v60 < (4 : Int32)
          · refine own_kY 73 X0 hx (hb hby d17_63) rfl (tlt hc63).1 (by decide) (by decide) ?_
            refine own_ru 78 [(.int ((19 : Int32) - ((v60.toUInt32 >>> ((1 : Int32) &&& 31).toUInt32).toInt32)))] X0 hx hby e17_73_5 rfl rfl ?_
            have b1 := Int32.lt_iff_toInt_lt.mp hc1
            have k0 : (0 : Int32).toInt = 0 := rfl
            have k1 : (65536 : Int32).toInt = 65536 := rfl
            have k2 : (256 : Int32).toInt = 256 := rfl
            have k3 : (16 : Int32).toInt = 16 := rfl
            have k4 : (4 : Int32).toInt = 4 := rfl
            have rq := rng32 q
            have b22 : q.toInt < (65536 : Int32).toInt := Int32.lt_iff_toInt_lt.mp hc22
            have b37 : ¬ (q.toInt < (256 : Int32).toInt) := fun z => hc37 (Int32.lt_iff_toInt_lt.mpr z)
            have e47 := own_us 8 (q := 8) (by decide) (by decide) hv47 (by omega)
            have p47 : ((2 ^ 8 : Nat) : Int) = 256 := rfl
            rw [p47] at e47
            have b51 : ¬ (v47.toInt < (16 : Int32).toInt) := fun z => hc51 (Int32.lt_iff_toInt_lt.mpr z)
            have e60 := own_us 4 (q := 4) (by decide) (by decide) hv60 (by omega)
            have p60 : ((2 ^ 4 : Nat) : Int) = 16 := rfl
            rw [p60] at e60
            have b63 : v60.toInt < (4 : Int32).toInt := Int32.lt_iff_toInt_lt.mp hc63
            have psh : ((2 ^ 12 : Nat) : Int) = 4096 := rfl
            have hq125 : Q17 Z q h0 n0 (some (.int ((19 : Int32) - ((v60.toUInt32 >>> ((1 : Int32) &&& 31).toUInt32).toInt32)))) h0 _ := ⟨((19 : Int32) - ((v60.toUInt32 >>> ((1 : Int32) &&& 31).toUInt32).toInt32)), rfl, N0, rfl, (own_nzF (q := q) (x := v60) (n := (19 : Int32)) 12 (by decide) (by decide) (by rw [psh]; omega) (by rw [psh]; omega) ⟨by omega, by omega⟩)⟩
            exact own_retI X0 hx hlk hrt (hb hby d17_78) e0 hq125 (by decide) (by decide)
          · refine own_kN 66 X0 hx (hb hby d17_63) rfl (flt hc63).1 rfl ?_
            refine own_rl 72 #[.val (.int v60), .val (.int (17 : Int32))] [(.int ((v60.toUInt32 >>> ((2 : Int32) &&& 31).toUInt32).toInt32))] X0 hx hby e17_66_4 rfl rfl ?_
            obtain ⟨v72, hv72⟩ : ∃ z : Int32, z = ((v60.toUInt32 >>> ((2 : Int32) &&& 31).toUInt32).toInt32) := ⟨_, rfl⟩
            rw [← hv72]
            refine own_rl 78 #[.val (.int v72), .val (.int (17 : Int32))] [(.int ((17 : Int32) - ((v72.toUInt32 >>> ((1 : Int32) &&& 31).toUInt32).toInt32)))] X0 hx hby e17_72_6 rfl rfl ?_
            have b1 := Int32.lt_iff_toInt_lt.mp hc1
            have k0 : (0 : Int32).toInt = 0 := rfl
            have k1 : (65536 : Int32).toInt = 65536 := rfl
            have k2 : (256 : Int32).toInt = 256 := rfl
            have k3 : (16 : Int32).toInt = 16 := rfl
            have k4 : (4 : Int32).toInt = 4 := rfl
            have rq := rng32 q
            have b22 : q.toInt < (65536 : Int32).toInt := Int32.lt_iff_toInt_lt.mp hc22
            have b37 : ¬ (q.toInt < (256 : Int32).toInt) := fun z => hc37 (Int32.lt_iff_toInt_lt.mpr z)
            have e47 := own_us 8 (q := 8) (by decide) (by decide) hv47 (by omega)
            have p47 : ((2 ^ 8 : Nat) : Int) = 256 := rfl
            rw [p47] at e47
            have b51 : ¬ (v47.toInt < (16 : Int32).toInt) := fun z => hc51 (Int32.lt_iff_toInt_lt.mpr z)
            have e60 := own_us 4 (q := 4) (by decide) (by decide) hv60 (by omega)
            have p60 : ((2 ^ 4 : Nat) : Int) = 16 := rfl
            rw [p60] at e60
            have b63 : ¬ (v60.toInt < (4 : Int32).toInt) := fun z => hc63 (Int32.lt_iff_toInt_lt.mpr z)
            have e72 := own_us 2 (q := 2) (by decide) (by decide) hv72 (by omega)
            have p72 : ((2 ^ 2 : Nat) : Int) = 4 := rfl
            rw [p72] at e72
            have psh : ((2 ^ 14 : Nat) : Int) = 16384 := rfl
            have hq126 : Q17 Z q h0 n0 (some (.int ((17 : Int32) - ((v72.toUInt32 >>> ((1 : Int32) &&& 31).toUInt32).toInt32)))) h0 _ := ⟨((17 : Int32) - ((v72.toUInt32 >>> ((1 : Int32) &&& 31).toUInt32).toInt32)), rfl, N0, rfl, (own_nzF (q := q) (x := v72) (n := (17 : Int32)) 14 (by decide) (by decide) (by rw [psh]; omega) (by rw [psh]; omega) ⟨by omega, by omega⟩)⟩
            exact own_retI X0 hx hlk hrt (hb hby d17_78) e0 hq126 (by decide) (by decide)
    · refine own_kN 25 X0 hx (hb hby d17_22) rfl (flt hc22).1 rfl ?_
      refine own_rl 32 #[.val (.int q), .val (.int (15 : Int32))] [(.int ((q.toUInt32 >>> ((16 : Int32) &&& 31).toUInt32).toInt32))] X0 hx hby e17_25_4 rfl rfl ?_
      obtain ⟨v32, hv32⟩ : ∃ z : Int32, z = ((q.toUInt32 >>> ((16 : Int32) &&& 31).toUInt32).toInt32) := ⟨_, rfl⟩
      rw [← hv32]
      refine own_rl 37 #[.val (.int v32), .val (.int (15 : Int32))] [(.int (256 : Int32)), (.int v32)] X0 hx hby e17_32_3 rfl rfl ?_
      by_cases hc37 : v32 < (256 : Int32)
      · refine own_kY 48 X0 hx (hb hby d17_37) rfl (tlt hc37).1 (by decide) (by decide) ?_
        refine own_ru 51 [(.int (16 : Int32)), (.int v32)] X0 hx hby e17_48_2 rfl rfl ?_
        by_cases hc51 : v32 < (16 : Int32)
        · refine own_kY 61 X0 hx (hb hby d17_51) rfl (tlt hc51).1 (by decide) (by decide) ?_
          refine own_ru 63 [(.int (4 : Int32)), (.int v32)] X0 hx hby e17_61_2 rfl rfl ?_
          by_cases hc63 : v32 < (4 : Int32)
          · refine own_kY 73 X0 hx (hb hby d17_63) rfl (tlt hc63).1 (by decide) (by decide) ?_
            refine own_ru 78 [(.int ((15 : Int32) - ((v32.toUInt32 >>> ((1 : Int32) &&& 31).toUInt32).toInt32)))] X0 hx hby e17_73_5 rfl rfl ?_
            have b1 := Int32.lt_iff_toInt_lt.mp hc1
            have k0 : (0 : Int32).toInt = 0 := rfl
            have k1 : (65536 : Int32).toInt = 65536 := rfl
            have k2 : (256 : Int32).toInt = 256 := rfl
            have k3 : (16 : Int32).toInt = 16 := rfl
            have k4 : (4 : Int32).toInt = 4 := rfl
            have rq := rng32 q
            have b22 : ¬ (q.toInt < (65536 : Int32).toInt) := fun z => hc22 (Int32.lt_iff_toInt_lt.mpr z)
            have e32 := own_us 16 (q := 16) (by decide) (by decide) hv32 (by omega)
            have p32 : ((2 ^ 16 : Nat) : Int) = 65536 := rfl
            rw [p32] at e32
            have b37 : v32.toInt < (256 : Int32).toInt := Int32.lt_iff_toInt_lt.mp hc37
            have b51 : v32.toInt < (16 : Int32).toInt := Int32.lt_iff_toInt_lt.mp hc51
            have b63 : v32.toInt < (4 : Int32).toInt := Int32.lt_iff_toInt_lt.mp hc63
            have psh : ((2 ^ 16 : Nat) : Int) = 65536 := rfl
            have hq127 : Q17 Z q h0 n0 (some (.int ((15 : Int32) - ((v32.toUInt32 >>> ((1 : Int32) &&& 31).toUInt32).toInt32)))) h0 _ := ⟨((15 : Int32) - ((v32.toUInt32 >>> ((1 : Int32) &&& 31).toUInt32).toInt32)), rfl, N0, rfl, (own_nzF (q := q) (x := v32) (n := (15 : Int32)) 16 (by decide) (by decide) (by rw [psh]; omega) (by rw [psh]; omega) ⟨by omega, by omega⟩)⟩
            exact own_retI X0 hx hlk hrt (hb hby d17_78) e0 hq127 (by decide) (by decide)
          · refine own_kN 66 X0 hx (hb hby d17_63) rfl (flt hc63).1 rfl ?_
            refine own_rl 72 #[.val (.int v32), .val (.int (13 : Int32))] [(.int ((v32.toUInt32 >>> ((2 : Int32) &&& 31).toUInt32).toInt32))] X0 hx hby e17_66_4 rfl rfl ?_
            obtain ⟨v72, hv72⟩ : ∃ z : Int32, z = ((v32.toUInt32 >>> ((2 : Int32) &&& 31).toUInt32).toInt32) := ⟨_, rfl⟩
            rw [← hv72]
            refine own_rl 78 #[.val (.int v72), .val (.int (13 : Int32))] [(.int ((13 : Int32) - ((v72.toUInt32 >>> ((1 : Int32) &&& 31).toUInt32).toInt32)))] X0 hx hby e17_72_6 rfl rfl ?_
            have b1 := Int32.lt_iff_toInt_lt.mp hc1
            have k0 : (0 : Int32).toInt = 0 := rfl
            have k1 : (65536 : Int32).toInt = 65536 := rfl
            have k2 : (256 : Int32).toInt = 256 := rfl
            have k3 : (16 : Int32).toInt = 16 := rfl
            have k4 : (4 : Int32).toInt = 4 := rfl
            have rq := rng32 q
            have b22 : ¬ (q.toInt < (65536 : Int32).toInt) := fun z => hc22 (Int32.lt_iff_toInt_lt.mpr z)
            have e32 := own_us 16 (q := 16) (by decide) (by decide) hv32 (by omega)
            have p32 : ((2 ^ 16 : Nat) : Int) = 65536 := rfl
            rw [p32] at e32
            have b37 : v32.toInt < (256 : Int32).toInt := Int32.lt_iff_toInt_lt.mp hc37
            have b51 : v32.toInt < (16 : Int32).toInt := Int32.lt_iff_toInt_lt.mp hc51
            have b63 : ¬ (v32.toInt < (4 : Int32).toInt) := fun z => hc63 (Int32.lt_iff_toInt_lt.mpr z)
            have e72 := own_us 2 (q := 2) (by decide) (by decide) hv72 (by omega)
            have p72 : ((2 ^ 2 : Nat) : Int) = 4 := rfl
            rw [p72] at e72
            have psh : ((2 ^ 18 : Nat) : Int) = 262144 := rfl
            have hq128 : Q17 Z q h0 n0 (some (.int ((13 : Int32) - ((v72.toUInt32 >>> ((1 : Int32) &&& 31).toUInt32).toInt32)))) h0 _ := ⟨((13 : Int32) - ((v72.toUInt32 >>> ((1 : Int32) &&& 31).toUInt32).toInt32)), rfl, N0, rfl, (own_nzF (q := q) (x := v72) (n := (13 : Int32)) 18 (by decide) (by decide) (by rw [psh]; omega) (by rw [psh]; omega) ⟨by omega, by omega⟩)⟩
            exact own_retI X0 hx hlk hrt (hb hby d17_78) e0 hq128 (by decide) (by decide)
        · refine own_kN 54 X0 hx (hb hby d17_51) rfl (flt hc51).1 rfl ?_
          refine own_rl 60 #[.val (.int v32), .val (.int (11 : Int32))] [(.int ((v32.toUInt32 >>> ((4 : Int32) &&& 31).toUInt32).toInt32))] X0 hx hby e17_54_4 rfl rfl ?_
          obtain ⟨v60, hv60⟩ : ∃ z : Int32, z = ((v32.toUInt32 >>> ((4 : Int32) &&& 31).toUInt32).toInt32) := ⟨_, rfl⟩
          rw [← hv60]
          refine own_rl 63 #[.val (.int v60), .val (.int (11 : Int32))] [(.int (4 : Int32)), (.int v60)] X0 hx hby e17_60_3 rfl rfl ?_
          by_cases hc63 : v60 < (4 : Int32)
          · refine own_kY 73 X0 hx (hb hby d17_63) rfl (tlt hc63).1 (by decide) (by decide) ?_
            refine own_ru 78 [(.int ((11 : Int32) - ((v60.toUInt32 >>> ((1 : Int32) &&& 31).toUInt32).toInt32)))] X0 hx hby e17_73_5 rfl rfl ?_
            have b1 := Int32.lt_iff_toInt_lt.mp hc1
            have k0 : (0 : Int32).toInt = 0 := rfl
            have k1 : (65536 : Int32).toInt = 65536 := rfl
            have k2 : (256 : Int32).toInt = 256 := rfl
            have k3 : (16 : Int32).toInt = 16 := rfl
            have k4 : (4 : Int32).toInt = 4 := rfl
            have rq := rng32 q
            have b22 : ¬ (q.toInt < (65536 : Int32).toInt) := fun z => hc22 (Int32.lt_iff_toInt_lt.mpr z)
            have e32 := own_us 16 (q := 16) (by decide) (by decide) hv32 (by omega)
            have p32 : ((2 ^ 16 : Nat) : Int) = 65536 := rfl
            rw [p32] at e32
            have b37 : v32.toInt < (256 : Int32).toInt := Int32.lt_iff_toInt_lt.mp hc37
            have b51 : ¬ (v32.toInt < (16 : Int32).toInt) := fun z => hc51 (Int32.lt_iff_toInt_lt.mpr z)
            have e60 := own_us 4 (q := 4) (by decide) (by decide) hv60 (by omega)
            have p60 : ((2 ^ 4 : Nat) : Int) = 16 := rfl
            rw [p60] at e60
            have b63 : v60.toInt < (4 : Int32).toInt := Int32.lt_iff_toInt_lt.mp hc63
            have psh : ((2 ^ 20 : Nat) : Int) = 1048576 := rfl
            have hq129 : Q17 Z q h0 n0 (some (.int ((11 : Int32) - ((v60.toUInt32 >>> ((1 : Int32) &&& 31).toUInt32).toInt32)))) h0 _ := ⟨((11 : Int32) - ((v60.toUInt32 >>> ((1 : Int32) &&& 31).toUInt32).toInt32)), rfl, N0, rfl, (own_nzF (q := q) (x := v60) (n := (11 : Int32)) 20 (by decide) (by decide) (by rw [psh]; omega) (by rw [psh]; omega) ⟨by omega, by omega⟩)⟩
            exact own_retI X0 hx hlk hrt (hb hby d17_78) e0 hq129 (by decide) (by decide)
          · refine own_kN 66 X0 hx (hb hby d17_63) rfl (flt hc63).1 rfl ?_
            refine own_rl 72 #[.val (.int v60), .val (.int (9 : Int32))] [(.int ((v60.toUInt32 >>> ((2 : Int32) &&& 31).toUInt32).toInt32))] X0 hx hby e17_66_4 rfl rfl ?_
            obtain ⟨v72, hv72⟩ : ∃ z : Int32, z = ((v60.toUInt32 >>> ((2 : Int32) &&& 31).toUInt32).toInt32) := ⟨_, rfl⟩
            rw [← hv72]
            refine own_rl 78 #[.val (.int v72), .val (.int (9 : Int32))] [(.int ((9 : Int32) - ((v72.toUInt32 >>> ((1 : Int32) &&& 31).toUInt32).toInt32)))] X0 hx hby e17_72_6 rfl rfl ?_
            have b1 := Int32.lt_iff_toInt_lt.mp hc1
            have k0 : (0 : Int32).toInt = 0 := rfl
            have k1 : (65536 : Int32).toInt = 65536 := rfl
            have k2 : (256 : Int32).toInt = 256 := rfl
            have k3 : (16 : Int32).toInt = 16 := rfl
            have k4 : (4 : Int32).toInt = 4 := rfl
            have rq := rng32 q
            have b22 : ¬ (q.toInt < (65536 : Int32).toInt) := fun z => hc22 (Int32.lt_iff_toInt_lt.mpr z)
            have e32 := own_us 16 (q := 16) (by decide) (by decide) hv32 (by omega)
            have p32 : ((2 ^ 16 : Nat) : Int) = 65536 := rfl
            rw [p32] at e32
            have b37 : v32.toInt < (256 : Int32).toInt := Int32.lt_iff_toInt_lt.mp hc37
            have b51 : ¬ (v32.toInt < (16 : Int32).toInt) := fun z => hc51 (Int32.lt_iff_toInt_lt.mpr z)
            have e60 := own_us 4 (q := 4) (by decide) (by decide) hv60 (by omega)
            have p60 : ((2 ^ 4 : Nat) : Int) = 16 := rfl
            rw [p60] at e60
            have b63 : ¬ (v60.toInt < (4 : Int32).toInt) := fun z => hc63 (Int32.lt_iff_toInt_lt.mpr z)
            have e72 := own_us 2 (q := 2) (by decide) (by decide) hv72 (by omega)
            have p72 : ((2 ^ 2 : Nat) : Int) = 4 := rfl
            rw [p72] at e72
            have psh : ((2 ^ 22 : Nat) : Int) = 4194304 := rfl
            have hq130 : Q17 Z q h0 n0 (some (.int ((9 : Int32) - ((v72.toUInt32 >>> ((1 : Int32) &&& 31).toUInt32).toInt32)))) h0 _ := ⟨((9 : Int32) - ((v72.toUInt32 >>> ((1 : Int32) &&& 31).toUInt32).toInt32)), rfl, N0, rfl, (own_nzF (q := q) (x := v72) (n := (9 : Int32)) 22 (by decide) (by decide) (by rw [psh]; omega) (by rw [psh]; omega) ⟨by omega, by omega⟩)⟩
            exact own_retI X0 hx hlk hrt (hb hby d17_78) e0 hq130 (by decide) (by decide)
      · refine own_kN 40 X0 hx (hb hby d17_37) rfl (flt hc37).1 rfl ?_
        refine own_rl 47 #[.val (.int v32), .val (.int (7 : Int32))] [(.int ((v32.toUInt32 >>> ((8 : Int32) &&& 31).toUInt32).toInt32))] X0 hx hby e17_40_4 rfl rfl ?_
        obtain ⟨v47, hv47⟩ : ∃ z : Int32, z = ((v32.toUInt32 >>> ((8 : Int32) &&& 31).toUInt32).toInt32) := ⟨_, rfl⟩
        rw [← hv47]
        refine own_rl 51 #[.val (.int v47), .val (.int (7 : Int32))] [(.int (16 : Int32)), (.int v47)] X0 hx hby e17_47_3 rfl rfl ?_
        by_cases hc51 : v47 < (16 : Int32)
        · refine own_kY 61 X0 hx (hb hby d17_51) rfl (tlt hc51).1 (by decide) (by decide) ?_
          refine own_ru 63 [(.int (4 : Int32)), (.int v47)] X0 hx hby e17_61_2 rfl rfl ?_
          by_cases hc63 : v47 < (4 : Int32)
          · refine own_kY 73 X0 hx (hb hby d17_63) rfl (tlt hc63).1 (by decide) (by decide) ?_
            refine own_ru 78 [(.int ((7 : Int32) - ((v47.toUInt32 >>> ((1 : Int32) &&& 31).toUInt32).toInt32)))] X0 hx hby e17_73_5 rfl rfl ?_
            have b1 := Int32.lt_iff_toInt_lt.mp hc1
            have k0 : (0 : Int32).toInt = 0 := rfl
            have k1 : (65536 : Int32).toInt = 65536 := rfl
            have k2 : (256 : Int32).toInt = 256 := rfl
            have k3 : (16 : Int32).toInt = 16 := rfl
            have k4 : (4 : Int32).toInt = 4 := rfl
            have rq := rng32 q
            have b22 : ¬ (q.toInt < (65536 : Int32).toInt) := fun z => hc22 (Int32.lt_iff_toInt_lt.mpr z)
            have e32 := own_us 16 (q := 16) (by decide) (by decide) hv32 (by omega)
            have p32 : ((2 ^ 16 : Nat) : Int) = 65536 := rfl
            rw [p32] at e32
            have b37 : ¬ (v32.toInt < (256 : Int32).toInt) := fun z => hc37 (Int32.lt_iff_toInt_lt.mpr z)
            have e47 := own_us 8 (q := 8) (by decide) (by decide) hv47 (by omega)
            have p47 : ((2 ^ 8 : Nat) : Int) = 256 := rfl
            rw [p47] at e47
            have b51 : v47.toInt < (16 : Int32).toInt := Int32.lt_iff_toInt_lt.mp hc51
            have b63 : v47.toInt < (4 : Int32).toInt := Int32.lt_iff_toInt_lt.mp hc63
            have psh : ((2 ^ 24 : Nat) : Int) = 16777216 := rfl
            have hq131 : Q17 Z q h0 n0 (some (.int ((7 : Int32) - ((v47.toUInt32 >>> ((1 : Int32) &&& 31).toUInt32).toInt32)))) h0 _ := ⟨((7 : Int32) - ((v47.toUInt32 >>> ((1 : Int32) &&& 31).toUInt32).toInt32)), rfl, N0, rfl, (own_nzF (q := q) (x := v47) (n := (7 : Int32)) 24 (by decide) (by decide) (by rw [psh]; omega) (by rw [psh]; omega) ⟨by omega, by omega⟩)⟩
            exact own_retI X0 hx hlk hrt (hb hby d17_78) e0 hq131 (by decide) (by decide)
          · refine own_kN 66 X0 hx (hb hby d17_63) rfl (flt hc63).1 rfl ?_
            refine own_rl 72 #[.val (.int v47), .val (.int (5 : Int32))] [(.int ((v47.toUInt32 >>> ((2 : Int32) &&& 31).toUInt32).toInt32))] X0 hx hby e17_66_4 rfl rfl ?_
            obtain ⟨v72, hv72⟩ : ∃ z : Int32, z = ((v47.toUInt32 >>> ((2 : Int32) &&& 31).toUInt32).toInt32) := ⟨_, rfl⟩
            rw [← hv72]
            refine own_rl 78 #[.val (.int v72), .val (.int (5 : Int32))] [(.int ((5 : Int32) - ((v72.toUInt32 >>> ((1 : Int32) &&& 31).toUInt32).toInt32)))] X0 hx hby e17_72_6 rfl rfl ?_
            have b1 := Int32.lt_iff_toInt_lt.mp hc1
            have k0 : (0 : Int32).toInt = 0 := rfl
            have k1 : (65536 : Int32).toInt = 65536 := rfl
            have k2 : (256 : Int32).toInt = 256 := rfl
            have k3 : (16 : Int32).toInt = 16 := rfl
            have k4 : (4 : Int32).toInt = 4 := rfl
            have rq := rng32 q
            have b22 : ¬ (q.toInt < (65536 : Int32).toInt) := fun z => hc22 (Int32.lt_iff_toInt_lt.mpr z)
            have e32 := own_us 16 (q := 16) (by decide) (by decide) hv32 (by omega)
            have p32 : ((2 ^ 16 : Nat) : Int) = 65536 := rfl
            rw [p32] at e32
            have b37 : ¬ (v32.toInt < (256 : Int32).toInt) := fun z => hc37 (Int32.lt_iff_toInt_lt.mpr z)
            have e47 := own_us 8 (q := 8) (by decide) (by decide) hv47 (by omega)
            have p47 : ((2 ^ 8 : Nat) : Int) = 256 := rfl
            rw [p47] at e47
            have b51 : v47.toInt < (16 : Int32).toInt := Int32.lt_iff_toInt_lt.mp hc51
            have b63 : ¬ (v47.toInt < (4 : Int32).toInt) := fun z => hc63 (Int32.lt_iff_toInt_lt.mpr z)
            have e72 := own_us 2 (q := 2) (by decide) (by decide) hv72 (by omega)
            have p72 : ((2 ^ 2 : Nat) : Int) = 4 := rfl
            rw [p72] at e72
            have psh : ((2 ^ 26 : Nat) : Int) = 67108864 := rfl
            have hq132 : Q17 Z q h0 n0 (some (.int ((5 : Int32) - ((v72.toUInt32 >>> ((1 : Int32) &&& 31).toUInt32).toInt32)))) h0 _ := ⟨((5 : Int32) - ((v72.toUInt32 >>> ((1 : Int32) &&& 31).toUInt32).toInt32)), rfl, N0, rfl, (own_nzF (q := q) (x := v72) (n := (5 : Int32)) 26 (by decide) (by decide) (by rw [psh]; omega) (by rw [psh]; omega) ⟨by omega, by omega⟩)⟩
            exact own_retI X0 hx hlk hrt (hb hby d17_78) e0 hq132 (by decide) (by decide)
        · refine own_kN 54 X0 hx (hb hby d17_51) rfl (flt hc51).1 rfl ?_
          refine own_rl 60 #[.val (.int v47), .val (.int (3 : Int32))] [(.int ((v47.toUInt32 >>> ((4 : Int32) &&& 31).toUInt32).toInt32))] X0 hx hby e17_54_4 rfl rfl ?_
          obtain ⟨v60, hv60⟩ : ∃ z : Int32, z = ((v47.toUInt32 >>> ((4 : Int32) &&& 31).toUInt32).toInt32) := ⟨_, rfl⟩
          rw [← hv60]
          refine own_rl 63 #[.val (.int v60), .val (.int (3 : Int32))] [(.int (4 : Int32)), (.int v60)] X0 hx hby e17_60_3 rfl rfl ?_
          by_cases hc63 : v60 < (4 : Int32)
          · refine own_kY 73 X0 hx (hb hby d17_63) rfl (tlt hc63).1 (by decide) (by decide) ?_
            refine own_ru 78 [(.int ((3 : Int32) - ((v60.toUInt32 >>> ((1 : Int32) &&& 31).toUInt32).toInt32)))] X0 hx hby e17_73_5 rfl rfl ?_
            have b1 := Int32.lt_iff_toInt_lt.mp hc1
            have k0 : (0 : Int32).toInt = 0 := rfl
            have k1 : (65536 : Int32).toInt = 65536 := rfl
            have k2 : (256 : Int32).toInt = 256 := rfl
            have k3 : (16 : Int32).toInt = 16 := rfl
            have k4 : (4 : Int32).toInt = 4 := rfl
            have rq := rng32 q
            have b22 : ¬ (q.toInt < (65536 : Int32).toInt) := fun z => hc22 (Int32.lt_iff_toInt_lt.mpr z)
            have e32 := own_us 16 (q := 16) (by decide) (by decide) hv32 (by omega)
            have p32 : ((2 ^ 16 : Nat) : Int) = 65536 := rfl
            rw [p32] at e32
            have b37 : ¬ (v32.toInt < (256 : Int32).toInt) := fun z => hc37 (Int32.lt_iff_toInt_lt.mpr z)
            have e47 := own_us 8 (q := 8) (by decide) (by decide) hv47 (by omega)
            have p47 : ((2 ^ 8 : Nat) : Int) = 256 := rfl
            rw [p47] at e47
            have b51 : ¬ (v47.toInt < (16 : Int32).toInt) := fun z => hc51 (Int32.lt_iff_toInt_lt.mpr z)
            have e60 := own_us 4 (q := 4) (by decide) (by decide) hv60 (by omega)
            have p60 : ((2 ^ 4 : Nat) : Int) = 16 := rfl
            rw [p60] at e60
            have b63 : v60.toInt < (4 : Int32).toInt := Int32.lt_iff_toInt_lt.mp hc63
            have psh : ((2 ^ 28 : Nat) : Int) = 268435456 := rfl
            have hq133 : Q17 Z q h0 n0 (some (.int ((3 : Int32) - ((v60.toUInt32 >>> ((1 : Int32) &&& 31).toUInt32).toInt32)))) h0 _ := ⟨((3 : Int32) - ((v60.toUInt32 >>> ((1 : Int32) &&& 31).toUInt32).toInt32)), rfl, N0, rfl, (own_nzF (q := q) (x := v60) (n := (3 : Int32)) 28 (by decide) (by decide) (by rw [psh]; omega) (by rw [psh]; omega) ⟨by omega, by omega⟩)⟩
            exact own_retI X0 hx hlk hrt (hb hby d17_78) e0 hq133 (by decide) (by decide)
          · refine own_kN 66 X0 hx (hb hby d17_63) rfl (flt hc63).1 rfl ?_
            refine own_rl 72 #[.val (.int v60), .val (.int (1 : Int32))] [(.int ((v60.toUInt32 >>> ((2 : Int32) &&& 31).toUInt32).toInt32))] X0 hx hby e17_66_4 rfl rfl ?_
            obtain ⟨v72, hv72⟩ : ∃ z : Int32, z = ((v60.toUInt32 >>> ((2 : Int32) &&& 31).toUInt32).toInt32) := ⟨_, rfl⟩
            rw [← hv72]
            refine own_rl 78 #[.val (.int v72), .val (.int (1 : Int32))] [(.int ((1 : Int32) - ((v72.toUInt32 >>> ((1 : Int32) &&& 31).toUInt32).toInt32)))] X0 hx hby e17_72_6 rfl rfl ?_
            have b1 := Int32.lt_iff_toInt_lt.mp hc1
            have k0 : (0 : Int32).toInt = 0 := rfl
            have k1 : (65536 : Int32).toInt = 65536 := rfl
            have k2 : (256 : Int32).toInt = 256 := rfl
            have k3 : (16 : Int32).toInt = 16 := rfl
            have k4 : (4 : Int32).toInt = 4 := rfl
            have rq := rng32 q
            have b22 : ¬ (q.toInt < (65536 : Int32).toInt) := fun z => hc22 (Int32.lt_iff_toInt_lt.mpr z)
            have e32 := own_us 16 (q := 16) (by decide) (by decide) hv32 (by omega)
            have p32 : ((2 ^ 16 : Nat) : Int) = 65536 := rfl
            rw [p32] at e32
            have b37 : ¬ (v32.toInt < (256 : Int32).toInt) := fun z => hc37 (Int32.lt_iff_toInt_lt.mpr z)
            have e47 := own_us 8 (q := 8) (by decide) (by decide) hv47 (by omega)
            have p47 : ((2 ^ 8 : Nat) : Int) = 256 := rfl
            rw [p47] at e47
            have b51 : ¬ (v47.toInt < (16 : Int32).toInt) := fun z => hc51 (Int32.lt_iff_toInt_lt.mpr z)
            have e60 := own_us 4 (q := 4) (by decide) (by decide) hv60 (by omega)
            have p60 : ((2 ^ 4 : Nat) : Int) = 16 := rfl
            rw [p60] at e60
            have b63 : ¬ (v60.toInt < (4 : Int32).toInt) := fun z => hc63 (Int32.lt_iff_toInt_lt.mpr z)
            have e72 := own_us 2 (q := 2) (by decide) (by decide) hv72 (by omega)
            have p72 : ((2 ^ 2 : Nat) : Int) = 4 := rfl
            rw [p72] at e72
            have psh : ((2 ^ 30 : Nat) : Int) = 1073741824 := rfl
            have hq134 : Q17 Z q h0 n0 (some (.int ((1 : Int32) - ((v72.toUInt32 >>> ((1 : Int32) &&& 31).toUInt32).toInt32)))) h0 _ := ⟨((1 : Int32) - ((v72.toUInt32 >>> ((1 : Int32) &&& 31).toUInt32).toInt32)), rfl, N0, rfl, (own_nzF (q := q) (x := v72) (n := (1 : Int32)) 30 (by decide) (by decide) (by rw [psh]; omega) (by rw [psh]; omega) ⟨by omega, by omega⟩)⟩
            exact own_retI X0 hx hlk hrt (hb hby d17_78) e0 hq134 (by decide) (by decide)
  · refine own_iN 4 X0 hx (hb hby d17_1) rfl ((if0 _ _).trans (flt hc1).2.2.1) rfl ?_
    refine own_ru 5 [(.int q)] X0 hx hby e17_4_1 rfl rfl ?_
    refine own_iY 13 X0 hx (hb hby d17_5) rfl ((if0 _ _).trans (feq hq0).2) (by decide) (by decide) ?_
    refine own_ru 14 [(.int (0 : Int32))] X0 hx hby e17_13_1 rfl rfl ?_
    have hq135 : Q17 Z q h0 n0 (some (.int (0 : Int32))) h0 _ := ⟨(0 : Int32), rfl, N0, rfl, (own_nzN hc1 hq0)⟩
    exact own_retI X0 hx hlk hrt (hb hby d17_14) e0 hq135 (by decide) (by decide)
abbrev my16 : MethodName := (⟨"java/lang/Long", "numberOfLeadingZeros", "(J)I"⟩ : MethodName)
theorem d16_3 : decode jdk_35_method_48_code 3 = .ok (.lushr, 1) := by decide +kernel
theorem d16_7 : decode jdk_35_method_48_code 7 = .ok (.ifCond .ne 14, 3) := by decide +kernel
theorem d16_14 : decode jdk_35_method_48_code 14 = .ok (.invokestatic 308, 3) := by decide +kernel
theorem d16_18 : decode jdk_35_method_48_code 18 = .ok (.goto 7, 3) := by decide +kernel
theorem d16_25 : decode jdk_35_method_48_code 25 = .ok (.ireturn, 1) := by decide +kernel
theorem e16_0_2 : own_dec jdk_35_method_48_code 0 [(.lload_n 0, 1), (.bipush 32, 2)] = true := by decide +kernel
theorem e16_4_1 : own_dec jdk_35_method_48_code 4 [(.l2i, 1)] = true := by decide +kernel
theorem e16_5_2 : own_dec jdk_35_method_48_code 5 [(.istore_n 2, 1), (.iload_n 2, 1)] = true := by decide +kernel
theorem e16_10_3 : own_dec jdk_35_method_48_code 10 [(.bipush 32, 2), (.lload_n 0, 1), (.l2i, 1)] = true := by decide +kernel
theorem e16_17_1 : own_dec jdk_35_method_48_code 17 [(.iadd, 1)] = true := by decide +kernel
theorem pn_4 : plainName "java/lang/Long" = true := by first | (simp [plainName, overriddenIn]; done) | decide +kernel
theorem pd_3 : parseMethodDescriptor "(I)I" = some ⟨[.int], some .int⟩ := by decide +kernel
def Q16 (Z : State) (z1 : Int64) (h0 : Heap) (n0 : Nat) (v : Option Value) (h : Heap) (L : List Loc) : Prop := ∃ r : Int32, v = some (.int r) ∧ Fr n0 L ∧ h = h0 ∧ (own_nzL z1 r)
set_option maxRecDepth 65536 in
set_option maxHeartbeats 40000000 in
theorem rm16 (l : Launch) (Z : State) (a0 : Array Value) (hw : OW a0 Z) (ws : List Jvm.Cond) (z1 : Int64) (h0 : Heap) (n0 : Nat) (Z0 : n0 ≤ h0.size) (hz : 0 < z1.toInt ∧ z1.toInt < 4294967296) :
    own_Met l my16 jdk_35_method_48_code 3 (some .int) ws (own_rm 1 0 0 14) #[(.long z1)] Z h0 (Q16 Z z1 h0 n0) 0 0 := by
  refine own_body (plainFor_of_name pn_4) (fun m => by first | (simp [entryFrame, mkF, argsToLocals, Value.category]; done) | rfl) (Ls := #[.val (.long z1), .second, .unset]) fun p e s m below meth c s₁ X0 hx hby hml hZ e0 hown hnm hlk hrt => ?_
  have N0 := Fr.nil n0
  refine own_ru 3 [(.int (32 : Int32)), (.long z1)] X0 hx hby e16_0_2 rfl rfl ?_
  refine own_st 4 [(.long ((z1.toUInt64 >>> ((32 : Int32) &&& 0x3f).toInt64.toUInt64).toInt64))] (fun t k => XS.lushr X0.here hx rfl (hb hby d16_3) rfl k) ?_
  refine own_ru 5 [(.int (((z1.toUInt64 >>> ((32 : Int32) &&& 0x3f).toInt64.toUInt64).toInt64).toInt32))] X0 hx hby e16_4_1 rfl rfl ?_
  obtain ⟨v5, hv5⟩ : ∃ z : Int32, z = (((z1.toUInt64 >>> ((32 : Int32) &&& 0x3f).toInt64.toUInt64).toInt64).toInt32) := ⟨_, rfl⟩
  rw [← hv5]
  refine own_rl 7 #[.val (.long z1), .second, .val (.int v5)] [(.int v5)] X0 hx hby e16_5_2 rfl rfl ?_
  refine own_iN 10 X0 hx (hb hby d16_7) rfl ((if0 _ _).trans (teq (own_hi0 hv5 hz)).2) rfl ?_
  refine own_ru 14 [(.int (z1.toInt32)), (.int (32 : Int32))] X0 hx hby e16_10_3 rfl rfl ?_
  refine own_cS X0 hx hZ hown (wd81 hw) (wd82 hw) (by decide) (wd83 hw) (wd18 hw) (rm17 l Z a0 hw [] (z1.toInt32) h0 n0 (by omega) (own_lo hz)) e0  [(.int (z1.toInt32))] [(.int (32 : Int32))] 17 1 (hb hby d16_14) rfl (by rw [hml]; rfl) rfl rfl (lenOf pd_3 rfl) rfl (by decide) fun v136 T136 Lc136 X136 hQ136 => ?_
  obtain ⟨r_136, rfl, N136q, e136, U136_0⟩ := hQ136
  have N136 := Fr.app N0 N136q
  refine own_ru 18 [(.int ((32 : Int32) + r_136))] X136 hx hby e16_17_1 rfl rfl ?_
  refine own_go 25 X136 hx (hb hby d16_18) (by decide) (by decide) ?_
  have hq137 : Q16 Z z1 h0 n0 (some (.int ((32 : Int32) + r_136))) h0 _ := ⟨((32 : Int32) + r_136), rfl, N136, rfl, (own_nzLof hz U136_0)⟩
  exact own_retI X136 hx hlk hrt (hb hby d16_25) e136 hq137 (by decide) (by decide)
abbrev my15 : MethodName := (⟨"com/example/mullion/mullion/service/DyadicTrie", "levelHolding", "(JJ)I"⟩ : MethodName)
theorem d15_5 : decode prog_41_method_9_code 5 = .ok (.invokestatic 80, 3) := by decide +kernel
theorem d15_9 : decode prog_41_method_9_code 9 = .ok (.ireturn, 1) := by decide +kernel
theorem e15_0_4 : own_dec prog_41_method_9_code 0 [(.bipush 64, 2), (.lload_n 0, 1), (.lload_n 2, 1), (.lxor, 1)] = true := by decide +kernel
theorem e15_8_1 : own_dec prog_41_method_9_code 8 [(.isub, 1)] = true := by decide +kernel
theorem pd_4 : parseMethodDescriptor "(J)I" = some ⟨[.long], some .int⟩ := by decide +kernel
def Q15 (Z : State) (z1 : Int64) (z2 : Int64) (h0 : Heap) (n0 : Nat) (v : Option Value) (h : Heap) (L : List Loc) : Prop := ∃ r : Int32, v = some (.int r) ∧ Fr n0 L ∧ h = h0 ∧ (own_lh z1 z2 r)
set_option maxRecDepth 65536 in
set_option maxHeartbeats 40000000 in
theorem rm15 (l : Launch) (Z : State) (a0 : Array Value) (hw : OW a0 Z) (ws : List Jvm.Cond) (z1 : Int64) (z2 : Int64) (h0 : Heap) (n0 : Nat) (Z0 : n0 ≤ h0.size) (hz : 0 < (z1 ^^^ z2).toInt ∧ (z1 ^^^ z2).toInt < 4294967296) :
    own_Met l my15 prog_41_method_9_code 4 (some .int) ws (own_rm 2 0 0 29) #[(.long z1), (.long z2)] Z h0 (Q15 Z z1 z2 h0 n0) 0 0 := by
  refine own_body (plainFor_of_name pn_1) (fun m => by first | (simp [entryFrame, mkF, argsToLocals, Value.category]; done) | rfl) (Ls := #[.val (.long z1), .second, .val (.long z2), .second]) fun p e s m below meth c s₁ X0 hx hby hml hZ e0 hown hnm hlk hrt => ?_
  have N0 := Fr.nil n0
  refine own_ru 5 [(.long (z1 ^^^ z2)), (.int (64 : Int32))] X0 hx hby e15_0_4 rfl rfl ?_
  refine own_cS X0 hx hZ hown (wd77 hw) (wd78 hw) (by decide) (wd80 hw) (wd79 hw) (rm16 l Z a0 hw [] (z1 ^^^ z2) h0 n0 (by omega) (by first | assumption | decide | omega)) e0  [(.long (z1 ^^^ z2))] [(.int (64 : Int32))] 8 1 (hb hby d15_5) rfl (by rw [hml]; rfl) rfl rfl (lenOf pd_4 rfl) rfl (by decide) fun v138 T138 Lc138 X138 hQ138 => ?_
  obtain ⟨r_138, rfl, N138q, e138, U138_0⟩ := hQ138
  have N138 := Fr.app N0 N138q
  refine own_ru 9 [(.int ((64 : Int32) - r_138))] X138 hx hby e15_8_1 rfl rfl ?_
  have hq139 : Q15 Z z1 z2 h0 n0 (some (.int ((64 : Int32) - r_138))) h0 _ := ⟨((64 : Int32) - r_138), rfl, N138, rfl, (own_lhOf U138_0)⟩
  exact own_retI X138 hx hlk hrt (hb hby d15_9) e138 hq139 (by decide) (by decide)
abbrev my5 : MethodName := (⟨"com/example/mullion/mullion/service/DyadicTrie", "put", "(IILjava/lang/Object;)V"⟩ : MethodName)
theorem d5_2 : decode prog_41_method_6_code 2 = .ok (.invokestatic 27, 3) := by decide +kernel
theorem d5_11 : decode prog_41_method_6_code 11 = .ok (.getfield 17, 3) := by decide +kernel
theorem d5_18 : decode prog_41_method_6_code 18 = .ok (.ifnull 30, 3) := by decide +kernel
theorem d5_50 : decode prog_41_method_6_code 50 = .ok (.ifnull 21, 3) := by decide +kernel
theorem d5_71 : decode prog_41_method_6_code 71 = .ok (.new 22, 3) := by decide +kernel
theorem d5_79 : decode prog_41_method_6_code 79 = .ok (.invokespecial 46, 3) := by decide +kernel
theorem d5_90 : decode prog_41_method_6_code 90 = .ok (.ifnull 31, 3) := by decide +kernel
theorem d5_123 : decode prog_41_method_6_code 123 = .ok (.ifnull 49, 3) := by decide +kernel
theorem d5_179 : decode prog_41_method_6_code 179 = .ok (.invokevirtual 61, 3) := by decide +kernel
theorem d5_182 : decode prog_41_method_6_code 182 = .ok (.return_, 1) := by decide +kernel
theorem e5_0_2 : own_dec prog_41_method_6_code 0 [(.iload_n 1, 1), (.iload_n 2, 1)] = true := by decide +kernel
theorem e5_5_4 : own_dec prog_41_method_6_code 5 [(.lstore 4, 2), (.aconst_null, 1), (.astore 6, 2), (.aload_n 0, 1)] = true := by decide +kernel
theorem e5_14_2 : own_dec prog_41_method_6_code 14 [(.astore 7, 2), (.aload 7, 2)] = true := by decide +kernel
theorem e5_48_1 : own_dec prog_41_method_6_code 48 [(.aload 7, 2)] = true := by decide +kernel
theorem e5_74_4 : own_dec prog_41_method_6_code 74 [(.dup, 1), (.iload_n 1, 1), (.lload 4, 2), (.aload_n 3, 1)] = true := by decide +kernel
theorem e5_82_4 : own_dec prog_41_method_6_code 82 [(.astore 8, 2), (.aload 8, 2), (.astore 9, 2), (.aload 7, 2)] = true := by decide +kernel
theorem e5_121_1 : own_dec prog_41_method_6_code 121 [(.aload 7, 2)] = true := by decide +kernel
theorem e5_172_4 : own_dec prog_41_method_6_code 172 [(.aload_n 0, 1), (.aload 6, 2), (.lload 4, 2), (.aload 9, 2)] = true := by decide +kernel
theorem pd_5 : parseMethodDescriptor "(IJLjava/lang/Object;)V" = some ⟨[.int, .long, (.object "java/lang/Object")], none⟩ := by decide +kernel
theorem pd_6 : parseMethodDescriptor "(Lcom/example/mullion/mullion/service/DyadicTrie$Node;JLcom/example/mullion/mullion/service/DyadicTrie$Node;)V" = some ⟨[(.object "com/example/mullion/mullion/service/DyadicTrie$Node"), .long, (.object "com/example/mullion/mullion/service/DyadicTrie$Node")], none⟩ := by decide +kernel
def Q5e (Z : State) (t1 : Addr) (lv : Int32) (q : Int32) (vo : Addr) (h0 : Heap) (n0 : Nat) (v : Option Value) (h : Heap) (L : List Loc) : Prop := ∃ nd : Addr, v = none ∧ Fr n0 L ∧ Keep h0 h [t1] ∧ ex7 Z h t1 ∧ fl0 Z h t1 (.ref nd) ∧ ex1 Z h nd ∧ fl2 Z h nd (.int lv) ∧ fl3 Z h nd (.long (own_start lv q)) ∧ fl5 Z h nd .null ∧ fl6 Z h nd .null ∧ fl4 Z h nd (.ref vo) ∧ (h0.size ≤ nd)
set_option maxRecDepth 65536 in
set_option maxHeartbeats 40000000 in
theorem rm5e (l : Launch) (Z : State) (a0 : Array Value) (hw : OW a0 Z) (ws : List Jvm.Cond) (t1 : Addr) (lv : Int32) (q : Int32) (vo : Addr) (h0 : Heap) (n0 : Nat) (Z0 : n0 ≤ h0.size) (P0 : ex7 Z h0 t1) (P1 : fl0 Z h0 t1 .null) (g_t1 : n0 ≤ t1) :
    own_Met l my5 prog_41_method_6_code 11 none ws (own_rm 3 1 5 37) #[(.ref t1), (.int lv), (.int q), (.ref vo)] Z h0 (Q5e Z t1 lv q vo h0 n0) 1 5 := by
  refine own_body (plainFor_of_name pn_1) (fun m => by first | (simp [entryFrame, mkF, argsToLocals, Value.category]; done) | rfl) (Ls := #[.val (.ref t1), .val (.int lv), .val (.int q), .val (.ref vo), .unset, .unset, .unset, .unset, .unset, .unset, .unset]) fun p e s m below meth c s₁ X0 hx hby hml hZ e0 hown hnm hlk hrt => ?_
  have N0 := Fr.nil n0
  have lt_P0 : @LT.lt Nat _ t1 (Array.size h0) := P0.lt
  refine own_ru 2 [(.int q), (.int lv)] X0 hx hby e5_0_2 rfl rfl ?_
  refine own_cS X0 hx hZ hown (wd28 hw) (wd29 hw) (by decide) (wd30 hw) (wd2 hw) (rm6 l Z a0 hw [] lv q h0 n0 (by omega) ) e0  [(.int lv), (.int q)] [] 5 0 (hb hby d5_2) rfl (by rw [hml]; rfl) rfl rfl (lenOf pd_1 rfl) rfl (by decide) fun v140 T140 Lc140 X140 hQ140 => ?_
  obtain ⟨rfl, N140q, e140⟩ := hQ140
  have N140 := Fr.app N0 N140q
  refine own_rl 11 #[.val (.ref t1), .val (.int lv), .val (.int q), .val (.ref vo), .val (.long (own_start lv q)), .second, .val .null, .unset, .unset, .unset, .unset] [(.ref t1)] X140 hx hby e5_5_4 rfl rfl ?_
  refine own_gF X140 hx hZ hown (host := "") (Or.inl (wd14 hw)) Via.refl e140 P1 14 rfl (hb hby d5_11) rfl fun T141 X141 e141 => ?_
  refine own_rl 18 #[.val (.ref t1), .val (.int lv), .val (.int q), .val (.ref vo), .val (.long (own_start lv q)), .second, .val .null, .val .null, .unset, .unset, .unset] [.null] X141 hx hby e5_14_2 rfl rfl ?_
  refine own_st 48 [] (fun t k => XS.ifnullYes X141.here hx rfl (pc0 := 18) (pc' := 48) rfl (hb hby d5_18) rfl (by decide) (by decide) k) ?_
  refine own_ru 50 [.null] X141 hx hby e5_48_1 rfl rfl ?_
  refine own_st 71 [] (fun t k => XS.ifnullYes X141.here hx rfl (pc0 := 50) (pc' := 71) rfl (hb hby d5_50) rfl (by decide) (by decide) k) ?_
  refine own_nO X141 hx hZ hown (wd39 hw) (wd40 hw) (wd41 hw) e141 74 (hb hby d5_71) rfl (by decide) (by decide) fun T142 h142 b142 g142 X142 e142 E142 A142 D142 UN142 => ?_
  have ll142 : @LT.lt Nat _ b142 (Array.size h142) := A142.lt
  have KK142 : Keep h0 h142 [t1] := (Keep.refl h0 [t1]).ext E142
  have z142 := E142.1
  have F143 : fl2 Z h142 b142 (.int (0 : Int32)) := D142 (Or.inr (wd47 hw)) (ty := .int) (by decide)
  have F144 : fl3 Z h142 b142 (.long (0 : Int64)) := D142 (Or.inr (wd49 hw)) (ty := .long) (by decide)
  have F145 : fl4 Z h142 b142 .null := D142 (Or.inl (wd51 hw)) (ty := (.object "java/lang/Object")) (by decide)
  have F146 : fl6 Z h142 b142 .null := D142 (Or.inl (wd93 hw)) (ty := (.object "com/example/mullion/mullion/service/DyadicTrie$Node")) (by decide)
  have F147 : fl5 Z h142 b142 .null := D142 (Or.inl (wd95 hw)) (ty := (.object "com/example/mullion/mullion/service/DyadicTrie$Node")) (by decide)
  refine own_ru 79 [(.ref vo), (.long (own_start lv q)), (.int lv), (.ref b142), (.ref b142)] X142 hx hby e5_74_4 rfl rfl ?_
  refine own_cRi X142 hx hZ hown rfl (wd42 hw) (wd43 hw) (by decide) (wd44 hw) (wd41 hw) (rm9r l Z a0 hw [] b142 lv (own_start lv q) vo (.int (0 : Int32)) (.long (0 : Int64)) .null h142 n0 (by omega) A142 F143 F144 F145 F147 F146 (by omega)) e142  [(.int lv), (.long (own_start lv q)), (.ref vo)] [(.ref b142)] 82 1 (hb hby d5_79) rfl (by rw [hml]; rfl) rfl rfl (lenOf pd_5 rfl) rfl (by decide) fun v148 T148 Lc148 X148 hQ148 => ?_
  obtain ⟨rfl, N148q, K148, G148_0, G148_1, G148_2, G148_3, G148_4, G148_5⟩ := hQ148
  have N148 := Fr.app N140 N148q
  have z148 := K148.1
  have KK148 : Keep h0 T148.heap [t1] := KK142.trans K148 (allS (Or.inr (by omega)) all0)
  have lt148_0 : @LT.lt Nat _ b142 (Array.size T148.heap) := G148_0.lt
  refine own_rl 90 #[.val (.ref t1), .val (.int lv), .val (.int q), .val (.ref vo), .val (.long (own_start lv q)), .second, .val .null, .val .null, .val (.ref b142), .val (.ref b142), .unset] [.null] X148 hx hby e5_82_4 rfl rfl ?_
  refine own_st 121 [] (fun t k => XS.ifnullYes X148.here hx rfl (pc0 := 90) (pc' := 121) rfl (hb hby d5_90) rfl (by decide) (by decide) k) ?_
  refine own_ru 123 [.null] X148 hx hby e5_121_1 rfl rfl ?_
  refine own_st 172 [] (fun t k => XS.ifnullYes X148.here hx rfl (pc0 := 123) (pc' := 172) rfl (hb hby d5_123) rfl (by decide) (by decide) k) ?_
  refine own_ru 179 [(.ref b142), (.long (own_start lv q)), .null, (.ref t1)] X148 hx hby e5_172_4 rfl rfl ?_
  have f149 := (Exa.keep (Exa.ext E142 P0) K148)
  have f150 := ((Fld.ext E142 P1).keep K148 (own_nS (by omega) nin0))
  refine own_cG X148 hx hZ hown (wd52 hw) (wd53 hw) (own_selPriv (mvT hZ (wd1 hw)) (Cond.privateMethod_at (mvP hZ (wd54 hw) (args := #[]))) (mvT hZ (wd53 hw)) (by decide)) (wd54 hw) (by decide) (wd55 hw) (wd2 hw) (rm10n l Z a0 hw [] t1 (own_start lv q) (.ref b142) .null T148.heap n0 (by omega) f149 f150 (by omega) rfl) rfl f149 [.null, (.long (own_start lv q)), (.ref b142)] [] 182 0 (hb hby d5_179) rfl (by rw [hml]; rfl) rfl rfl (lenOf pd_6 rfl) rfl (by decide) fun v151 T151 Lc151 X151 hQ151 => ?_
  obtain ⟨rfl, N151q, K151, G151_0, G151_1⟩ := hQ151
  have N151 := Fr.app N148 N151q
  have z151 := K151.1
  have KK151 : Keep h0 T151.heap [t1] := KK148.trans K151 (allS (Or.inl (by simp)) all0)
  have lt151_0 : @LT.lt Nat _ t1 (Array.size T151.heap) := G151_0.lt
  have f153 := (Exa.keep G148_0 K151)
  have f154 := (G148_1.keep K151 (own_nS (by omega) nin0))
  have f155 := (G148_2.keep K151 (own_nS (by omega) nin0))
  have f156 := (G148_4.keep K151 (own_nS (by omega) nin0))
  have f157 := (G148_5.keep K151 (own_nS (by omega) nin0))
  have f158 := (G148_3.keep K151 (own_nS (by omega) nin0))
  have hq152 : Q5e Z t1 lv q vo h0 n0 none T151.heap _ := ⟨b142, rfl, N151, KK151, G151_0, G151_1, f153, f154, f155, f156, f157, f158, (by first | omega | assumption)⟩
  exact own_retV X151 hx hlk hrt (hb hby d5_182) rfl hq152 (by decide) (by decide)
def own_Leaf (Z : State) (h : Heap) (n0 : Nat) (tt : Addr) (l1 : Int32) (s1 : Int64) : Prop := ∃ (na : Addr) (va : Addr), ex7 Z h tt ∧ fl0 Z h tt (.ref na) ∧ ex1 Z h na ∧ fl2 Z h na (.int l1) ∧ fl3 Z h na (.long s1) ∧ fl5 Z h na .null ∧ fl6 Z h na .null ∧ fl4 Z h na (.ref va) ∧ n0 ≤ tt ∧ n0 ≤ na ∧ @Ne Nat tt na
def own_NestL (Z : State) (h : Heap) (n0 : Nat) (tt : Addr) (l1 : Int32) (s1 : Int64) (l2 : Int32) (s2 : Int64) : Prop := ∃ (np : Addr) (nc : Addr) (vp : Addr) (vc : Addr), ex7 Z h tt ∧ fl0 Z h tt (.ref np) ∧ ex1 Z h np ∧ fl2 Z h np (.int l1) ∧ fl3 Z h np (.long s1) ∧ fl5 Z h np (.ref nc) ∧ fl6 Z h np .null ∧ fl4 Z h np (.ref vp) ∧ ex1 Z h nc ∧ fl2 Z h nc (.int l2) ∧ fl3 Z h nc (.long s2) ∧ fl5 Z h nc .null ∧ fl6 Z h nc .null ∧ fl4 Z h nc (.ref vc) ∧ (own_wid l1 s1 l2 s2) ∧ (own_low l1 s2) ∧ n0 ≤ tt ∧ n0 ≤ np ∧ n0 ≤ nc ∧ @Ne Nat tt np ∧ @Ne Nat tt nc ∧ @Ne Nat np nc
def own_NestH (Z : State) (h : Heap) (n0 : Nat) (tt : Addr) (l1 : Int32) (s1 : Int64) (l2 : Int32) (s2 : Int64) : Prop := ∃ (np : Addr) (nc : Addr) (vp : Addr) (vc : Addr), ex7 Z h tt ∧ fl0 Z h tt (.ref np) ∧ ex1 Z h np ∧ fl2 Z h np (.int l1) ∧ fl3 Z h np (.long s1) ∧ fl5 Z h np .null ∧ fl6 Z h np (.ref nc) ∧ fl4 Z h np (.ref vp) ∧ ex1 Z h nc ∧ fl2 Z h nc (.int l2) ∧ fl3 Z h nc (.long s2) ∧ fl5 Z h nc .null ∧ fl6 Z h nc .null ∧ fl4 Z h nc (.ref vc) ∧ (own_wid l1 s1 l2 s2) ∧ (¬ own_low l1 s2) ∧ n0 ≤ tt ∧ n0 ≤ np ∧ n0 ≤ nc ∧ @Ne Nat tt np ∧ @Ne Nat tt nc ∧ @Ne Nat np nc
def own_Fork (Z : State) (h : Heap) (n0 : Nat) (tt : Addr) (l1 : Int32) (s1 : Int64) (l2 : Int32) (s2 : Int64) : Prop := ∃ (nr : Addr) (na : Addr) (nb : Addr) (va : Addr) (vb : Addr) (lr : Int32) (sr : Int64), ex7 Z h tt ∧ fl0 Z h tt (.ref nr) ∧ ex1 Z h nr ∧ fl2 Z h nr (.int lr) ∧ fl3 Z h nr (.long sr) ∧ fl5 Z h nr (.ref na) ∧ fl6 Z h nr (.ref nb) ∧ fl4 Z h nr .null ∧ ex1 Z h na ∧ fl2 Z h na (.int l1) ∧ fl3 Z h na (.long s1) ∧ fl5 Z h na .null ∧ fl6 Z h na .null ∧ fl4 Z h na (.ref va) ∧ ex1 Z h nb ∧ fl2 Z h nb (.int l2) ∧ fl3 Z h nb (.long s2) ∧ fl5 Z h nb .null ∧ fl6 Z h nb .null ∧ fl4 Z h nb (.ref vb) ∧ (own_wid lr sr l1 s1) ∧ (own_wid lr sr l2 s2) ∧ (own_low lr s1) ∧ (¬ own_low lr s2) ∧ n0 ≤ tt ∧ n0 ≤ nr ∧ n0 ≤ na ∧ n0 ≤ nb ∧ @Ne Nat tt nr ∧ @Ne Nat tt na ∧ @Ne Nat tt nb ∧ @Ne Nat nr na ∧ @Ne Nat nr nb ∧ @Ne Nat na nb
def own_Emp (Z : State) (h : Heap) (n0 : Nat) (tt : Addr) : Prop := ex7 Z h tt ∧ fl0 Z h tt .null ∧ n0 ≤ tt
def own_Two (Z : State) (h : Heap) (n0 : Nat) (tt : Addr) (l1 : Int32) (s1 : Int64) (l2 : Int32) (s2 : Int64) : Prop := own_NestL Z h n0 tt l1 s1 l2 s2 ∨ own_NestH Z h n0 tt l1 s1 l2 s2 ∨ own_NestL Z h n0 tt l2 s2 l1 s1 ∨ own_NestH Z h n0 tt l2 s2 l1 s1 ∨ own_Fork Z h n0 tt l1 s1 l2 s2 ∨ own_Fork Z h n0 tt l2 s2 l1 s1
def own_Inv (Z : State) (h : Heap) (n0 : Nat) (tt : Addr) (l1 : Int32) (s1 : Int64) (l2 : Int32) (s2 : Int64) (pa pb : Prop) : Prop := (pa ∧ pb ∧ own_Two Z h n0 tt l1 s1 l2 s2) ∨ (pa ∧ ¬ pb ∧ own_Leaf Z h n0 tt l1 s1) ∨ (¬ pa ∧ pb ∧ own_Leaf Z h n0 tt l2 s2) ∨ (¬ pa ∧ ¬ pb ∧ own_Emp Z h n0 tt)

theorem d5_26 : decode prog_41_method_6_code 26 = .ok (.invokevirtual 31, 3) := by decide +kernel
theorem d5_29 : decode prog_41_method_6_code 29 = .ok (.ifCond .eq 19, 3) := by decide +kernel
theorem d5_40 : decode prog_41_method_6_code 40 = .ok (.invokevirtual 35, 3) := by decide +kernel
theorem d5_45 : decode prog_41_method_6_code 45 = .ok (.goto (-29), 3) := by decide +kernel
theorem d5_58 : decode prog_41_method_6_code 58 = .ok (.invokevirtual 39, 3) := by decide +kernel
theorem d5_61 : decode prog_41_method_6_code 61 = .ok (.ifCond .eq 10, 3) := by decide +kernel
theorem d5_97 : decode prog_41_method_6_code 97 = .ok (.getfield 49, 3) := by decide +kernel
theorem d5_102 : decode prog_41_method_6_code 102 = .ok (.getfield 53, 3) := by decide +kernel
theorem d5_105 : decode prog_41_method_6_code 105 = .ok (.invokevirtual 31, 3) := by decide +kernel
theorem d5_108 : decode prog_41_method_6_code 108 = .ok (.ifCond .eq 13, 3) := by decide +kernel
theorem d5_115 : decode prog_41_method_6_code 115 = .ok (.invokevirtual 57, 3) := by decide +kernel
theorem d5_118 : decode prog_41_method_6_code 118 = .ok (.goto 54, 3) := by decide +kernel
theorem d5_130 : decode prog_41_method_6_code 130 = .ok (.getfield 53, 3) := by decide +kernel
theorem d5_133 : decode prog_41_method_6_code 133 = .ok (.invokestatic 13, 3) := by decide +kernel
theorem d5_138 : decode prog_41_method_6_code 138 = .ok (.new 22, 3) := by decide +kernel
theorem d5_148 : decode prog_41_method_6_code 148 = .ok (.lushr, 1) := by decide +kernel
theorem d5_151 : decode prog_41_method_6_code 151 = .ok (.lshl, 1) := by decide +kernel
theorem d5_153 : decode prog_41_method_6_code 153 = .ok (.invokespecial 46, 3) := by decide +kernel
theorem d5_162 : decode prog_41_method_6_code 162 = .ok (.invokevirtual 57, 3) := by decide +kernel
theorem d5_169 : decode prog_41_method_6_code 169 = .ok (.invokevirtual 57, 3) := by decide +kernel
theorem e5_21_3 : own_dec prog_41_method_6_code 21 [(.aload 7, 2), (.iload_n 1, 1), (.lload 4, 2)] = true := by decide +kernel
theorem e5_32_4 : own_dec prog_41_method_6_code 32 [(.aload 7, 2), (.astore 6, 2), (.aload 7, 2), (.lload 4, 2)] = true := by decide +kernel
theorem e5_43_1 : own_dec prog_41_method_6_code 43 [(.astore 7, 2)] = true := by decide +kernel
theorem e5_16_1 : own_dec prog_41_method_6_code 16 [(.aload 7, 2)] = true := by decide +kernel
theorem e5_53_3 : own_dec prog_41_method_6_code 53 [(.aload 7, 2), (.iload_n 1, 1), (.lload 4, 2)] = true := by decide +kernel
theorem e5_93_2 : own_dec prog_41_method_6_code 93 [(.aload 8, 2), (.aload 7, 2)] = true := by decide +kernel
theorem e5_100_1 : own_dec prog_41_method_6_code 100 [(.aload 7, 2)] = true := by decide +kernel
theorem e5_111_2 : own_dec prog_41_method_6_code 111 [(.aload 8, 2), (.aload 7, 2)] = true := by decide +kernel
theorem e5_126_2 : own_dec prog_41_method_6_code 126 [(.lload 4, 2), (.aload 7, 2)] = true := by decide +kernel
theorem e5_136_1 : own_dec prog_41_method_6_code 136 [(.istore 10, 2)] = true := by decide +kernel
theorem e5_141_4 : own_dec prog_41_method_6_code 141 [(.dup, 1), (.iload 10, 2), (.lload 4, 2), (.iload 10, 2)] = true := by decide +kernel
theorem e5_149_1 : own_dec prog_41_method_6_code 149 [(.iload 10, 2)] = true := by decide +kernel
theorem e5_152_1 : own_dec prog_41_method_6_code 152 [(.aconst_null, 1)] = true := by decide +kernel
theorem e5_156_2 : own_dec prog_41_method_6_code 156 [(.astore 9, 2), (.aload 9, 2)] = true := by decide +kernel
theorem e5_160_1 : own_dec prog_41_method_6_code 160 [(.aload 7, 2)] = true := by decide +kernel
theorem e5_165_2 : own_dec prog_41_method_6_code 165 [(.aload 9, 2), (.aload 8, 2)] = true := by decide +kernel
theorem pd_7 : parseMethodDescriptor "(IJ)Z" = some ⟨[.int, .long], some .boolean⟩ := by decide +kernel
theorem pd_8 : parseMethodDescriptor "(J)Lcom/example/mullion/mullion/service/DyadicTrie$Node;" = some ⟨[.long], some (.object "com/example/mullion/mullion/service/DyadicTrie$Node")⟩ := by decide +kernel
theorem pd_9 : parseMethodDescriptor "(Lcom/example/mullion/mullion/service/DyadicTrie$Node;)V" = some ⟨[(.object "com/example/mullion/mullion/service/DyadicTrie$Node")], none⟩ := by decide +kernel
theorem pd_10 : parseMethodDescriptor "(JJ)I" = some ⟨[.long, .long], some .int⟩ := by decide +kernel
def Q5l (Z : State) (tt : Addr) (lv : Int32) (q : Int32) (vo : Addr) (na : Addr) (la : Int32) (sa : Int64) (va : Addr) (h0 : Heap) (n0 : Nat) (v : Option Value) (h : Heap) (L : List Loc) : Prop := v = none ∧ Fr n0 L ∧ h0.size ≤ h.size ∧ own_Two Z h n0 tt la sa lv (own_start lv q)
set_option maxRecDepth 65536 in
set_option maxHeartbeats 40000000 in
theorem rm5l (l : Launch) (Z : State) (a0 : Array Value) (hw : OW a0 Z) (ws : List Jvm.Cond) (tt : Addr) (lv : Int32) (q : Int32) (vo : Addr) (na : Addr) (la : Int32) (sa : Int64) (va : Addr) (h0 : Heap) (n0 : Nat) (Z0 : n0 ≤ h0.size) (P0 : ex7 Z h0 tt) (P1 : fl0 Z h0 tt (.ref na)) (P2 : ex1 Z h0 na) (P3 : fl2 Z h0 na (.int la)) (P4 : fl3 Z h0 na (.long sa)) (P5 : fl5 Z h0 na .null) (P6 : fl6 Z h0 na .null) (P7 : fl4 Z h0 na (.ref va)) (g_tt : n0 ≤ tt) (g_na : n0 ≤ na) (hne : @Ne Nat tt na) (hal : own_al la sa) (hbl : own_al lv (own_start lv q)) (hns : ¬ (la = lv ∧ sa = own_start lv q)) :
    own_Met l my5 prog_41_method_6_code 11 none ws (own_rm 3 2 10 44) #[(.ref tt), (.int lv), (.int q), (.ref vo)] Z h0 (Q5l Z tt lv q vo na la sa va h0 n0) 2 10 := by
  refine own_body (plainFor_of_name pn_1) (fun m => by first | (simp [entryFrame, mkF, argsToLocals, Value.category]; done) | rfl) (Ls := #[.val (.ref tt), .val (.int lv), .val (.int q), .val (.ref vo), .unset, .unset, .unset, .unset, .unset, .unset, .unset]) fun p e s m below meth c s₁ X0 hx hby hml hZ e0 hown hnm hlk hrt => ?_
  have N0 := Fr.nil n0
  have lt_P0 : @LT.lt Nat _ tt (Array.size h0) := P0.lt
  have lt_P2 : @LT.lt Nat _ na (Array.size h0) := P2.lt
  refine own_ru 2 [(.int q), (.int lv)] X0 hx hby e5_0_2 rfl rfl ?_
  refine own_cS X0 hx hZ hown (wd28 hw) (wd29 hw) (by decide) (wd30 hw) (wd2 hw) (rm6 l Z a0 hw [] lv q h0 n0 (by omega) ) e0  [(.int lv), (.int q)] [] 5 0 (hb hby d5_2) rfl (by rw [hml]; rfl) rfl rfl (lenOf pd_1 rfl) rfl (by decide) fun v159 T159 Lc159 X159 hQ159 => ?_
  obtain ⟨rfl, N159q, e159⟩ := hQ159
  have N159 := Fr.app N0 N159q
  refine own_rl 11 #[.val (.ref tt), .val (.int lv), .val (.int q), .val (.ref vo), .val (.long (own_start lv q)), .second, .val .null, .unset, .unset, .unset, .unset] [(.ref tt)] X159 hx hby e5_5_4 rfl rfl ?_
  refine own_gF X159 hx hZ hown (host := "") (Or.inl (wd14 hw)) Via.refl e159 P1 14 rfl (hb hby d5_11) rfl fun T160 X160 e160 => ?_
  refine own_rl 18 #[.val (.ref tt), .val (.int lv), .val (.int q), .val (.ref vo), .val (.long (own_start lv q)), .second, .val .null, .val (.ref na), .unset, .unset, .unset] [(.ref na)] X160 hx hby e5_14_2 rfl rfl ?_
  refine own_st 21 [] (fun t k => XS.ifnullNo X160.here hx rfl (hb hby d5_18) rfl k) ?_
  refine own_ru 26 [(.long (own_start lv q)), (.int lv), (.ref na)] X160 hx hby e5_21_3 rfl rfl ?_
  refine own_cR X160 hx hZ hown (wd60 hw) (wd61 hw) (wd62 hw) (wd40 hw) (by decide) (wd63 hw) (wd41 hw) (rm12 l Z a0 hw [] na lv (own_start lv q) la sa h0 n0 (by omega) P2 P3 P4) e160 P2 [(.int lv), (.long (own_start lv q))] [] 29 0 (hb hby d5_26) rfl (by rw [hml]; rfl) rfl rfl (lenOf pd_7 rfl) rfl (by decide) fun v161 T161 Lc161 X161 hQ161 => ?_
  obtain ⟨hvc161, N161q, e161⟩ := hQ161
  have N161 := Fr.app N159 N161q
  rcases hvc161 with ⟨rfl, hp26⟩ | ⟨rfl, hp26⟩
  · refine own_iN 32 X161 hx (hb hby d5_29) rfl ((if0 _ _).trans (feq (by decide : ¬ ((1 : Int32) = (0 : Int32)))).1) rfl ?_
    refine own_rl 40 #[.val (.ref tt), .val (.int lv), .val (.int q), .val (.ref vo), .val (.long (own_start lv q)), .second, .val (.ref na), .val (.ref na), .unset, .unset, .unset] [(.long (own_start lv q)), (.ref na)] X161 hx hby e5_32_4 rfl rfl ?_
    refine own_cR X161 hx hZ hown (wd101 hw) (wd102 hw) (wd103 hw) (wd40 hw) (by decide) (wd104 hw) (wd41 hw) (rm21 l Z a0 hw [] na (own_start lv q) la .null .null h0 n0 (by omega) P2 P3 P5 P6 rfl rfl) e161 P2 [(.long (own_start lv q))] [] 43 0 (hb hby d5_40) rfl (by rw [hml]; rfl) rfl rfl (lenOf pd_8 rfl) rfl (by decide) fun v162 T162 Lc162 X162 hQ162 => ?_
    obtain ⟨hvc162, N162q, e162⟩ := hQ162
    have N162 := Fr.app N161 N162q
    rcases hvc162 with ⟨hp40, rfl⟩ | ⟨hp40, rfl⟩
    · refine own_rl 45 #[.val (.ref tt), .val (.int lv), .val (.int q), .val (.ref vo), .val (.long (own_start lv q)), .second, .val (.ref na), .val .null, .unset, .unset, .unset] [] X162 hx hby e5_43_1 rfl rfl ?_
      refine own_go 16 X162 hx (hb hby d5_45) (by decide) (by decide) ?_
      refine own_ru 18 [.null] X162 hx hby e5_16_1 rfl rfl ?_
      refine own_st 48 [] (fun t k => XS.ifnullYes X162.here hx rfl (pc0 := 18) (pc' := 48) rfl (hb hby d5_18) rfl (by decide) (by decide) k) ?_
      refine own_ru 50 [.null] X162 hx hby e5_48_1 rfl rfl ?_
      refine own_st 71 [] (fun t k => XS.ifnullYes X162.here hx rfl (pc0 := 50) (pc' := 71) rfl (hb hby d5_50) rfl (by decide) (by decide) k) ?_
      refine own_nO X162 hx hZ hown (wd39 hw) (wd40 hw) (wd41 hw) e162 74 (hb hby d5_71) rfl (by decide) (by decide) fun T163 h163 b163 g163 X163 e163 E163 A163 D163 UN163 => ?_
      have ll163 : @LT.lt Nat _ b163 (Array.size h163) := A163.lt
      have z163 := E163.1
      have F164 : fl2 Z h163 b163 (.int (0 : Int32)) := D163 (Or.inr (wd47 hw)) (ty := .int) (by decide)
      have F165 : fl3 Z h163 b163 (.long (0 : Int64)) := D163 (Or.inr (wd49 hw)) (ty := .long) (by decide)
      have F166 : fl4 Z h163 b163 .null := D163 (Or.inl (wd51 hw)) (ty := (.object "java/lang/Object")) (by decide)
      have F167 : fl6 Z h163 b163 .null := D163 (Or.inl (wd93 hw)) (ty := (.object "com/example/mullion/mullion/service/DyadicTrie$Node")) (by decide)
      have F168 : fl5 Z h163 b163 .null := D163 (Or.inl (wd95 hw)) (ty := (.object "com/example/mullion/mullion/service/DyadicTrie$Node")) (by decide)
      refine own_ru 79 [(.ref vo), (.long (own_start lv q)), (.int lv), (.ref b163), (.ref b163)] X163 hx hby e5_74_4 rfl rfl ?_
      refine own_cRi X163 hx hZ hown rfl (wd42 hw) (wd43 hw) (by decide) (wd44 hw) (wd41 hw) (rm9r l Z a0 hw [] b163 lv (own_start lv q) vo (.int (0 : Int32)) (.long (0 : Int64)) .null h163 n0 (by omega) A163 F164 F165 F166 F168 F167 (by omega)) e163  [(.int lv), (.long (own_start lv q)), (.ref vo)] [(.ref b163)] 82 1 (hb hby d5_79) rfl (by rw [hml]; rfl) rfl rfl (lenOf pd_5 rfl) rfl (by decide) fun v169 T169 Lc169 X169 hQ169 => ?_
      obtain ⟨rfl, N169q, K169, G169_0, G169_1, G169_2, G169_3, G169_4, G169_5⟩ := hQ169
      have N169 := Fr.app N162 N169q
      have z169 := K169.1
      have lt169_0 : @LT.lt Nat _ b163 (Array.size T169.heap) := G169_0.lt
      refine own_rl 90 #[.val (.ref tt), .val (.int lv), .val (.int q), .val (.ref vo), .val (.long (own_start lv q)), .second, .val (.ref na), .val .null, .val (.ref b163), .val (.ref b163), .unset] [.null] X169 hx hby e5_82_4 rfl rfl ?_
      refine own_st 121 [] (fun t k => XS.ifnullYes X169.here hx rfl (pc0 := 90) (pc' := 121) rfl (hb hby d5_90) rfl (by decide) (by decide) k) ?_
      refine own_ru 123 [.null] X169 hx hby e5_121_1 rfl rfl ?_
      refine own_st 172 [] (fun t k => XS.ifnullYes X169.here hx rfl (pc0 := 123) (pc' := 172) rfl (hb hby d5_123) rfl (by decide) (by decide) k) ?_
      refine own_ru 179 [(.ref b163), (.long (own_start lv q)), (.ref na), (.ref tt)] X169 hx hby e5_172_4 rfl rfl ?_
      have f170 := (Exa.keep (Exa.ext E163 P2) K169)
      have f171 := ((Fld.ext E163 P3).keep K169 (own_nS (by omega) nin0))
      have f172 := ((Fld.ext E163 P4).keep K169 (own_nS (by omega) nin0))
      have f173 := ((Fld.ext E163 P7).keep K169 (own_nS (by omega) nin0))
      have f174 := ((Fld.ext E163 P5).keep K169 (own_nS (by omega) nin0))
      have f175 := ((Fld.ext E163 P6).keep K169 (own_nS (by omega) nin0))
      have f177 := (Exa.keep (Exa.ext E163 P0) K169)
      refine own_cG X169 hx hZ hown (wd52 hw) (wd53 hw) (own_selPriv (mvT hZ (wd1 hw)) (Cond.privateMethod_at (mvP hZ (wd54 hw) (args := #[]))) (mvT hZ (wd53 hw)) (by decide)) (wd54 hw) (by decide) (wd55 hw) (wd2 hw) (rm10p l Z a0 hw [] tt na (own_start lv q) (.ref b163) la sa (.ref va) .null .null T169.heap n0 (by omega) f170 f171 f172 f173 f174 f175 (by omega) rfl) rfl f177 [(.ref na), (.long (own_start lv q)), (.ref b163)] [] 182 0 (hb hby d5_179) rfl (by rw [hml]; rfl) rfl rfl (lenOf pd_6 rfl) rfl (by decide) fun v176 T176 Lc176 X176 hQ176 => ?_
      obtain ⟨vl_176, vh_176, rfl, N176q, K176, G176_0, G176_1, G176_2, G176_3, G176_4, G176_5, hvd176⟩ := hQ176
      have N176 := Fr.app N169 N176q
      have z176 := K176.1
      have lt176_0 : @LT.lt Nat _ na (Array.size T176.heap) := G176_0.lt
      rcases hvd176 with ⟨hp179, rfl, rfl⟩ | ⟨hp179, rfl, rfl⟩
      · have f179 := (Exa.keep f177 K176)
        have f180 := (((Fld.ext E163 P1).keep K169 (own_nS (by omega) nin0)).keep K176 (own_nS (by omega) nin0))
        have f181 := (Exa.keep G169_0 K176)
        have f182 := (G169_1.keep K176 (own_nS (by omega) nin0))
        have f183 := (G169_2.keep K176 (own_nS (by omega) nin0))
        have f184 := (G169_4.keep K176 (own_nS (by omega) nin0))
        have f185 := (G169_5.keep K176 (own_nS (by omega) nin0))
        have f186 := (G169_3.keep K176 (own_nS (by omega) nin0))
        have hq178 : Q5l Z tt lv q vo na la sa va h0 n0 none T176.heap _ := ⟨rfl, N176, (by omega), Or.inl ⟨na, b163, _, _, f179, f180, G176_0, G176_1, G176_2, G176_4, G176_5, G176_3, f181, f182, f183, f184, f185, f186, hp26, hp179, by omega, by omega, by omega, by omega, by omega, by omega⟩⟩
        exact own_retV X176 hx hlk hrt (hb hby d5_182) rfl hq178 (by decide) (by decide)
      · exact absurd hp40 hp179
    · refine own_rl 45 #[.val (.ref tt), .val (.int lv), .val (.int q), .val (.ref vo), .val (.long (own_start lv q)), .second, .val (.ref na), .val .null, .unset, .unset, .unset] [] X162 hx hby e5_43_1 rfl rfl ?_
      refine own_go 16 X162 hx (hb hby d5_45) (by decide) (by decide) ?_
      refine own_ru 18 [.null] X162 hx hby e5_16_1 rfl rfl ?_
      refine own_st 48 [] (fun t k => XS.ifnullYes X162.here hx rfl (pc0 := 18) (pc' := 48) rfl (hb hby d5_18) rfl (by decide) (by decide) k) ?_
      refine own_ru 50 [.null] X162 hx hby e5_48_1 rfl rfl ?_
      refine own_st 71 [] (fun t k => XS.ifnullYes X162.here hx rfl (pc0 := 50) (pc' := 71) rfl (hb hby d5_50) rfl (by decide) (by decide) k) ?_
      refine own_nO X162 hx hZ hown (wd39 hw) (wd40 hw) (wd41 hw) e162 74 (hb hby d5_71) rfl (by decide) (by decide) fun T187 h187 b187 g187 X187 e187 E187 A187 D187 UN187 => ?_
      have ll187 : @LT.lt Nat _ b187 (Array.size h187) := A187.lt
      have z187 := E187.1
      have F188 : fl2 Z h187 b187 (.int (0 : Int32)) := D187 (Or.inr (wd47 hw)) (ty := .int) (by decide)
      have F189 : fl3 Z h187 b187 (.long (0 : Int64)) := D187 (Or.inr (wd49 hw)) (ty := .long) (by decide)
      have F190 : fl4 Z h187 b187 .null := D187 (Or.inl (wd51 hw)) (ty := (.object "java/lang/Object")) (by decide)
      have F191 : fl6 Z h187 b187 .null := D187 (Or.inl (wd93 hw)) (ty := (.object "com/example/mullion/mullion/service/DyadicTrie$Node")) (by decide)
      have F192 : fl5 Z h187 b187 .null := D187 (Or.inl (wd95 hw)) (ty := (.object "com/example/mullion/mullion/service/DyadicTrie$Node")) (by decide)
      refine own_ru 79 [(.ref vo), (.long (own_start lv q)), (.int lv), (.ref b187), (.ref b187)] X187 hx hby e5_74_4 rfl rfl ?_
      refine own_cRi X187 hx hZ hown rfl (wd42 hw) (wd43 hw) (by decide) (wd44 hw) (wd41 hw) (rm9r l Z a0 hw [] b187 lv (own_start lv q) vo (.int (0 : Int32)) (.long (0 : Int64)) .null h187 n0 (by omega) A187 F188 F189 F190 F192 F191 (by omega)) e187  [(.int lv), (.long (own_start lv q)), (.ref vo)] [(.ref b187)] 82 1 (hb hby d5_79) rfl (by rw [hml]; rfl) rfl rfl (lenOf pd_5 rfl) rfl (by decide) fun v193 T193 Lc193 X193 hQ193 => ?_
      obtain ⟨rfl, N193q, K193, G193_0, G193_1, G193_2, G193_3, G193_4, G193_5⟩ := hQ193
      have N193 := Fr.app N162 N193q
      have z193 := K193.1
      have lt193_0 : @LT.lt Nat _ b187 (Array.size T193.heap) := G193_0.lt
      refine own_rl 90 #[.val (.ref tt), .val (.int lv), .val (.int q), .val (.ref vo), .val (.long (own_start lv q)), .second, .val (.ref na), .val .null, .val (.ref b187), .val (.ref b187), .unset] [.null] X193 hx hby e5_82_4 rfl rfl ?_
      refine own_st 121 [] (fun t k => XS.ifnullYes X193.here hx rfl (pc0 := 90) (pc' := 121) rfl (hb hby d5_90) rfl (by decide) (by decide) k) ?_
      refine own_ru 123 [.null] X193 hx hby e5_121_1 rfl rfl ?_
      refine own_st 172 [] (fun t k => XS.ifnullYes X193.here hx rfl (pc0 := 123) (pc' := 172) rfl (hb hby d5_123) rfl (by decide) (by decide) k) ?_
      refine own_ru 179 [(.ref b187), (.long (own_start lv q)), (.ref na), (.ref tt)] X193 hx hby e5_172_4 rfl rfl ?_
      have f194 := (Exa.keep (Exa.ext E187 P2) K193)
      have f195 := ((Fld.ext E187 P3).keep K193 (own_nS (by omega) nin0))
      have f196 := ((Fld.ext E187 P4).keep K193 (own_nS (by omega) nin0))
      have f197 := ((Fld.ext E187 P7).keep K193 (own_nS (by omega) nin0))
      have f198 := ((Fld.ext E187 P5).keep K193 (own_nS (by omega) nin0))
      have f199 := ((Fld.ext E187 P6).keep K193 (own_nS (by omega) nin0))
      have f201 := (Exa.keep (Exa.ext E187 P0) K193)
      refine own_cG X193 hx hZ hown (wd52 hw) (wd53 hw) (own_selPriv (mvT hZ (wd1 hw)) (Cond.privateMethod_at (mvP hZ (wd54 hw) (args := #[]))) (mvT hZ (wd53 hw)) (by decide)) (wd54 hw) (by decide) (wd55 hw) (wd2 hw) (rm10p l Z a0 hw [] tt na (own_start lv q) (.ref b187) la sa (.ref va) .null .null T193.heap n0 (by omega) f194 f195 f196 f197 f198 f199 (by omega) rfl) rfl f201 [(.ref na), (.long (own_start lv q)), (.ref b187)] [] 182 0 (hb hby d5_179) rfl (by rw [hml]; rfl) rfl rfl (lenOf pd_6 rfl) rfl (by decide) fun v200 T200 Lc200 X200 hQ200 => ?_
      obtain ⟨vl_200, vh_200, rfl, N200q, K200, G200_0, G200_1, G200_2, G200_3, G200_4, G200_5, hvd200⟩ := hQ200
      have N200 := Fr.app N193 N200q
      have z200 := K200.1
      have lt200_0 : @LT.lt Nat _ na (Array.size T200.heap) := G200_0.lt
      rcases hvd200 with ⟨hp179, rfl, rfl⟩ | ⟨hp179, rfl, rfl⟩
      · exact absurd hp179 hp40
      · have f203 := (Exa.keep f201 K200)
        have f204 := (((Fld.ext E187 P1).keep K193 (own_nS (by omega) nin0)).keep K200 (own_nS (by omega) nin0))
        have f205 := (Exa.keep G193_0 K200)
        have f206 := (G193_1.keep K200 (own_nS (by omega) nin0))
        have f207 := (G193_2.keep K200 (own_nS (by omega) nin0))
        have f208 := (G193_4.keep K200 (own_nS (by omega) nin0))
        have f209 := (G193_5.keep K200 (own_nS (by omega) nin0))
        have f210 := (G193_3.keep K200 (own_nS (by omega) nin0))
        have hq202 : Q5l Z tt lv q vo na la sa va h0 n0 none T200.heap _ := ⟨rfl, N200, (by omega), Or.inr (Or.inl ⟨na, b187, _, _, f203, f204, G200_0, G200_1, G200_2, G200_4, G200_5, G200_3, f205, f206, f207, f208, f209, f210, hp26, hp179, by omega, by omega, by omega, by omega, by omega, by omega⟩)⟩
        exact own_retV X200 hx hlk hrt (hb hby d5_182) rfl hq202 (by decide) (by decide)
  · refine own_iY 48 X161 hx (hb hby d5_29) rfl ((if0 _ _).trans (teq (by decide : ((0 : Int32) = (0 : Int32)))).1) (by decide) (by decide) ?_
    refine own_ru 50 [(.ref na)] X161 hx hby e5_48_1 rfl rfl ?_
    refine own_st 53 [] (fun t k => XS.ifnullNo X161.here hx rfl (hb hby d5_50) rfl k) ?_
    refine own_ru 58 [(.long (own_start lv q)), (.int lv), (.ref na)] X161 hx hby e5_53_3 rfl rfl ?_
    refine own_cR X161 hx hZ hown (wd68 hw) (wd69 hw) (wd70 hw) (wd40 hw) (by decide) (wd71 hw) (wd41 hw) (rm14 l Z a0 hw [] na lv (own_start lv q) la sa h0 n0 (by omega) P3 P4) e161 P2 [(.int lv), (.long (own_start lv q))] [] 61 0 (hb hby d5_58) rfl (by rw [hml]; rfl) rfl rfl (lenOf pd_7 rfl) rfl (by decide) fun v211 T211 Lc211 X211 hQ211 => ?_
    obtain ⟨hvc211, N211q, e211⟩ := hQ211
    have N211 := Fr.app N161 N211q
    rcases hvc211 with ⟨rfl, hp58⟩ | ⟨rfl, hp58⟩
    · exact absurd hp58 hns
    · refine own_iY 71 X211 hx (hb hby d5_61) rfl ((if0 _ _).trans (teq (by decide : ((0 : Int32) = (0 : Int32)))).1) (by decide) (by decide) ?_
      refine own_nO X211 hx hZ hown (wd39 hw) (wd40 hw) (wd41 hw) e211 74 (hb hby d5_71) rfl (by decide) (by decide) fun T212 h212 b212 g212 X212 e212 E212 A212 D212 UN212 => ?_
      have ll212 : @LT.lt Nat _ b212 (Array.size h212) := A212.lt
      have z212 := E212.1
      have F213 : fl2 Z h212 b212 (.int (0 : Int32)) := D212 (Or.inr (wd47 hw)) (ty := .int) (by decide)
      have F214 : fl3 Z h212 b212 (.long (0 : Int64)) := D212 (Or.inr (wd49 hw)) (ty := .long) (by decide)
      have F215 : fl4 Z h212 b212 .null := D212 (Or.inl (wd51 hw)) (ty := (.object "java/lang/Object")) (by decide)
      have F216 : fl6 Z h212 b212 .null := D212 (Or.inl (wd93 hw)) (ty := (.object "com/example/mullion/mullion/service/DyadicTrie$Node")) (by decide)
      have F217 : fl5 Z h212 b212 .null := D212 (Or.inl (wd95 hw)) (ty := (.object "com/example/mullion/mullion/service/DyadicTrie$Node")) (by decide)
      refine own_ru 79 [(.ref vo), (.long (own_start lv q)), (.int lv), (.ref b212), (.ref b212)] X212 hx hby e5_74_4 rfl rfl ?_
      refine own_cRi X212 hx hZ hown rfl (wd42 hw) (wd43 hw) (by decide) (wd44 hw) (wd41 hw) (rm9r l Z a0 hw [] b212 lv (own_start lv q) vo (.int (0 : Int32)) (.long (0 : Int64)) .null h212 n0 (by omega) A212 F213 F214 F215 F217 F216 (by omega)) e212  [(.int lv), (.long (own_start lv q)), (.ref vo)] [(.ref b212)] 82 1 (hb hby d5_79) rfl (by rw [hml]; rfl) rfl rfl (lenOf pd_5 rfl) rfl (by decide) fun v218 T218 Lc218 X218 hQ218 => ?_
      obtain ⟨rfl, N218q, K218, G218_0, G218_1, G218_2, G218_3, G218_4, G218_5⟩ := hQ218
      have N218 := Fr.app N211 N218q
      have z218 := K218.1
      have lt218_0 : @LT.lt Nat _ b212 (Array.size T218.heap) := G218_0.lt
      refine own_rl 90 #[.val (.ref tt), .val (.int lv), .val (.int q), .val (.ref vo), .val (.long (own_start lv q)), .second, .val .null, .val (.ref na), .val (.ref b212), .val (.ref b212), .unset] [(.ref na)] X218 hx hby e5_82_4 rfl rfl ?_
      refine own_st 93 [] (fun t k => XS.ifnullNo X218.here hx rfl (hb hby d5_90) rfl k) ?_
      refine own_ru 97 [(.ref na), (.ref b212)] X218 hx hby e5_93_2 rfl rfl ?_
      have f219 := ((Fld.ext E212 P3).keep K218 (own_nS (by omega) nin0))
      refine own_gR X218 hx hZ hown (wd72 hw) Via.refl rfl f219 100 rfl (hb hby d5_97) rfl fun T220 X220 e220 => ?_
      refine own_ru 102 [(.ref na), (.int la), (.ref b212)] X220 hx hby e5_100_1 rfl rfl ?_
      have f221 := ((Fld.ext E212 P4).keep K218 (own_nS (by omega) nin0))
      refine own_gR X220 hx hZ hown (wd73 hw) Via.refl e220 f221 105 rfl (hb hby d5_102) rfl fun T222 X222 e222 => ?_
      refine own_cR X222 hx hZ hown (wd60 hw) (wd61 hw) (wd62 hw) (wd40 hw) (by decide) (wd63 hw) (wd41 hw) (rm12 l Z a0 hw [] b212 la sa lv (own_start lv q) T218.heap n0 (by omega) G218_0 G218_1 G218_2) e222 G218_0 [(.int la), (.long sa)] [] 108 0 (hb hby d5_105) rfl (by rw [hml]; rfl) rfl rfl (lenOf pd_7 rfl) rfl (by decide) fun v223 T223 Lc223 X223 hQ223 => ?_
      obtain ⟨hvc223, N223q, e223⟩ := hQ223
      have N223 := Fr.app N218 N223q
      rcases hvc223 with ⟨rfl, hp105⟩ | ⟨rfl, hp105⟩
      · refine own_iN 111 X223 hx (hb hby d5_108) rfl ((if0 _ _).trans (feq (by decide : ¬ ((1 : Int32) = (0 : Int32)))).1) rfl ?_
        refine own_ru 115 [(.ref na), (.ref b212)] X223 hx hby e5_111_2 rfl rfl ?_
        refine own_cR X223 hx hZ hown (wd84 hw) (wd85 hw) (wd86 hw) (wd40 hw) (by decide) (wd87 hw) (wd41 hw) (rm18 l Z a0 hw [] b212 na sa lv (own_start lv q) (.ref vo) .null .null T218.heap n0 (by omega) G218_0 G218_1 G218_2 G218_3 G218_4 G218_5 f221 (by omega)) e223 G218_0 [(.ref na)] [] 118 0 (hb hby d5_115) rfl (by rw [hml]; rfl) rfl rfl (lenOf pd_9 rfl) rfl (by decide) fun v224 T224 Lc224 X224 hQ224 => ?_
        obtain ⟨vl_224, vh_224, rfl, N224q, K224, G224_0, G224_1, G224_2, G224_3, G224_4, G224_5, hvd224⟩ := hQ224
        have N224 := Fr.app N223 N224q
        have z224 := K224.1
        have lt224_0 : @LT.lt Nat _ b212 (Array.size T224.heap) := G224_0.lt
        rcases hvd224 with ⟨hp115, rfl, rfl⟩ | ⟨hp115, rfl, rfl⟩
        · refine own_go 172 X224 hx (hb hby d5_118) (by decide) (by decide) ?_
          refine own_ru 179 [(.ref b212), (.long (own_start lv q)), .null, (.ref tt)] X224 hx hby e5_172_4 rfl rfl ?_
          have f225 := (Exa.keep (Exa.keep (Exa.ext E212 P0) K218) K224)
          have f226 := (((Fld.ext E212 P1).keep K218 (own_nS (by omega) nin0)).keep K224 (own_nS (by omega) nin0))
          refine own_cG X224 hx hZ hown (wd52 hw) (wd53 hw) (own_selPriv (mvT hZ (wd1 hw)) (Cond.privateMethod_at (mvP hZ (wd54 hw) (args := #[]))) (mvT hZ (wd53 hw)) (by decide)) (wd54 hw) (by decide) (wd55 hw) (wd2 hw) (rm10n l Z a0 hw [] tt (own_start lv q) (.ref b212) (.ref na) T224.heap n0 (by omega) f225 f226 (by omega) rfl) rfl f225 [.null, (.long (own_start lv q)), (.ref b212)] [] 182 0 (hb hby d5_179) rfl (by rw [hml]; rfl) rfl rfl (lenOf pd_6 rfl) rfl (by decide) fun v227 T227 Lc227 X227 hQ227 => ?_
          obtain ⟨rfl, N227q, K227, G227_0, G227_1⟩ := hQ227
          have N227 := Fr.app N224 N227q
          have z227 := K227.1
          have lt227_0 : @LT.lt Nat _ tt (Array.size T227.heap) := G227_0.lt
          have f229 := (Exa.keep G224_0 K227)
          have f230 := (G224_1.keep K227 (own_nS (by omega) nin0))
          have f231 := (G224_2.keep K227 (own_nS (by omega) nin0))
          have f232 := (G224_4.keep K227 (own_nS (by omega) nin0))
          have f233 := (G224_5.keep K227 (own_nS (by omega) nin0))
          have f234 := (G224_3.keep K227 (own_nS (by omega) nin0))
          have f235 := (Exa.keep (Exa.keep (Exa.keep (Exa.ext E212 P2) K218) K224) K227)
          have f236 := ((f219.keep K224 (own_nS (by omega) nin0)).keep K227 (own_nS (by omega) nin0))
          have f237 := ((f221.keep K224 (own_nS (by omega) nin0)).keep K227 (own_nS (by omega) nin0))
          have f238 := ((((Fld.ext E212 P5).keep K218 (own_nS (by omega) nin0)).keep K224 (own_nS (by omega) nin0)).keep K227 (own_nS (by omega) nin0))
          have f239 := ((((Fld.ext E212 P6).keep K218 (own_nS (by omega) nin0)).keep K224 (own_nS (by omega) nin0)).keep K227 (own_nS (by omega) nin0))
          have f240 := ((((Fld.ext E212 P7).keep K218 (own_nS (by omega) nin0)).keep K224 (own_nS (by omega) nin0)).keep K227 (own_nS (by omega) nin0))
          have hq228 : Q5l Z tt lv q vo na la sa va h0 n0 none T227.heap _ := ⟨rfl, N227, (by omega), Or.inr (Or.inr (Or.inl ⟨b212, na, _, _, G227_0, G227_1, f229, f230, f231, f232, f233, f234, f235, f236, f237, f238, f239, f240, hp105, hp115, by omega, by omega, by omega, by omega, by omega, by omega⟩))⟩
          exact own_retV X227 hx hlk hrt (hb hby d5_182) rfl hq228 (by decide) (by decide)
        · refine own_go 172 X224 hx (hb hby d5_118) (by decide) (by decide) ?_
          refine own_ru 179 [(.ref b212), (.long (own_start lv q)), .null, (.ref tt)] X224 hx hby e5_172_4 rfl rfl ?_
          have f241 := (Exa.keep (Exa.keep (Exa.ext E212 P0) K218) K224)
          have f242 := (((Fld.ext E212 P1).keep K218 (own_nS (by omega) nin0)).keep K224 (own_nS (by omega) nin0))
          refine own_cG X224 hx hZ hown (wd52 hw) (wd53 hw) (own_selPriv (mvT hZ (wd1 hw)) (Cond.privateMethod_at (mvP hZ (wd54 hw) (args := #[]))) (mvT hZ (wd53 hw)) (by decide)) (wd54 hw) (by decide) (wd55 hw) (wd2 hw) (rm10n l Z a0 hw [] tt (own_start lv q) (.ref b212) (.ref na) T224.heap n0 (by omega) f241 f242 (by omega) rfl) rfl f241 [.null, (.long (own_start lv q)), (.ref b212)] [] 182 0 (hb hby d5_179) rfl (by rw [hml]; rfl) rfl rfl (lenOf pd_6 rfl) rfl (by decide) fun v243 T243 Lc243 X243 hQ243 => ?_
          obtain ⟨rfl, N243q, K243, G243_0, G243_1⟩ := hQ243
          have N243 := Fr.app N224 N243q
          have z243 := K243.1
          have lt243_0 : @LT.lt Nat _ tt (Array.size T243.heap) := G243_0.lt
          have f245 := (Exa.keep G224_0 K243)
          have f246 := (G224_1.keep K243 (own_nS (by omega) nin0))
          have f247 := (G224_2.keep K243 (own_nS (by omega) nin0))
          have f248 := (G224_4.keep K243 (own_nS (by omega) nin0))
          have f249 := (G224_5.keep K243 (own_nS (by omega) nin0))
          have f250 := (G224_3.keep K243 (own_nS (by omega) nin0))
          have f251 := (Exa.keep (Exa.keep (Exa.keep (Exa.ext E212 P2) K218) K224) K243)
          have f252 := ((f219.keep K224 (own_nS (by omega) nin0)).keep K243 (own_nS (by omega) nin0))
          have f253 := ((f221.keep K224 (own_nS (by omega) nin0)).keep K243 (own_nS (by omega) nin0))
          have f254 := ((((Fld.ext E212 P5).keep K218 (own_nS (by omega) nin0)).keep K224 (own_nS (by omega) nin0)).keep K243 (own_nS (by omega) nin0))
          have f255 := ((((Fld.ext E212 P6).keep K218 (own_nS (by omega) nin0)).keep K224 (own_nS (by omega) nin0)).keep K243 (own_nS (by omega) nin0))
          have f256 := ((((Fld.ext E212 P7).keep K218 (own_nS (by omega) nin0)).keep K224 (own_nS (by omega) nin0)).keep K243 (own_nS (by omega) nin0))
          have hq244 : Q5l Z tt lv q vo na la sa va h0 n0 none T243.heap _ := ⟨rfl, N243, (by omega), Or.inr (Or.inr (Or.inr (Or.inl ⟨b212, na, _, _, G243_0, G243_1, f245, f246, f247, f248, f249, f250, f251, f252, f253, f254, f255, f256, hp105, hp115, by omega, by omega, by omega, by omega, by omega, by omega⟩)))⟩
          exact own_retV X243 hx hlk hrt (hb hby d5_182) rfl hq244 (by decide) (by decide)
      · refine own_iY 121 X223 hx (hb hby d5_108) rfl ((if0 _ _).trans (teq (by decide : ((0 : Int32) = (0 : Int32)))).1) (by decide) (by decide) ?_
        refine own_ru 123 [(.ref na)] X223 hx hby e5_121_1 rfl rfl ?_
        refine own_st 126 [] (fun t k => XS.ifnullNo X223.here hx rfl (hb hby d5_123) rfl k) ?_
        have FK := own_forkF hal hbl hp26 hns hp105
        refine own_ru 130 [(.ref na), (.long (own_start lv q))] X223 hx hby e5_126_2 rfl rfl ?_
        refine own_gR X223 hx hZ hown (wd73 hw) Via.refl e223 f221 133 rfl (hb hby d5_130) rfl fun T257 X257 e257 => ?_
        refine own_cS X257 hx hZ hown (wd74 hw) (wd75 hw) (by decide) (wd76 hw) (wd2 hw) (rm15 l Z a0 hw [] (own_start lv q) sa T218.heap n0 (by omega) FK.1) e257  [(.long (own_start lv q)), (.long sa)] [] 136 0 (hb hby d5_133) rfl (by rw [hml]; rfl) rfl rfl (lenOf pd_10 rfl) rfl (by decide) fun v258 T258 Lc258 X258 hQ258 => ?_
        obtain ⟨r_258, rfl, N258q, e258, U258_0⟩ := hQ258
        have N258 := Fr.app N223 N258q
        refine own_rl 138 #[.val (.ref tt), .val (.int lv), .val (.int q), .val (.ref vo), .val (.long (own_start lv q)), .second, .val .null, .val (.ref na), .val (.ref b212), .val (.ref b212), .val (.int r_258)] [] X258 hx hby e5_136_1 rfl rfl ?_
        refine own_nO X258 hx hZ hown (wd39 hw) (wd40 hw) (wd41 hw) e258 141 (hb hby d5_138) rfl (by decide) (by decide) fun T259 h259 b259 g259 X259 e259 E259 A259 D259 UN259 => ?_
        have ll259 : @LT.lt Nat _ b259 (Array.size h259) := A259.lt
        have z259 := E259.1
        have F260 : fl2 Z h259 b259 (.int (0 : Int32)) := D259 (Or.inr (wd47 hw)) (ty := .int) (by decide)
        have F261 : fl3 Z h259 b259 (.long (0 : Int64)) := D259 (Or.inr (wd49 hw)) (ty := .long) (by decide)
        have F262 : fl4 Z h259 b259 .null := D259 (Or.inl (wd51 hw)) (ty := (.object "java/lang/Object")) (by decide)
        have F263 : fl6 Z h259 b259 .null := D259 (Or.inl (wd93 hw)) (ty := (.object "com/example/mullion/mullion/service/DyadicTrie$Node")) (by decide)
        have F264 : fl5 Z h259 b259 .null := D259 (Or.inl (wd95 hw)) (ty := (.object "com/example/mullion/mullion/service/DyadicTrie$Node")) (by decide)
        refine own_ru 148 [(.int r_258), (.long (own_start lv q)), (.int r_258), (.ref b259), (.ref b259)] X259 hx hby e5_141_4 rfl rfl ?_
        refine own_st 149 [(.long (((own_start lv q).toUInt64 >>> (r_258 &&& 0x3f).toInt64.toUInt64).toInt64)), (.int r_258), (.ref b259), (.ref b259)] (fun t k => XS.lushr X259.here hx rfl (hb hby d5_148) rfl k) ?_
        refine own_ru 151 [(.int r_258), (.long (((own_start lv q).toUInt64 >>> (r_258 &&& 0x3f).toInt64.toUInt64).toInt64)), (.int r_258), (.ref b259), (.ref b259)] X259 hx hby e5_149_1 rfl rfl ?_
        refine own_st 152 [(.long ((((own_start lv q).toUInt64 >>> (r_258 &&& 0x3f).toInt64.toUInt64).toInt64) <<< (r_258 &&& 0x3f).toInt64)), (.int r_258), (.ref b259), (.ref b259)] (fun t k => XS.lshl X259.here hx rfl (hb hby d5_151) rfl k) ?_
        refine own_ru 153 [.null, (.long ((((own_start lv q).toUInt64 >>> (r_258 &&& 0x3f).toInt64.toUInt64).toInt64) <<< (r_258 &&& 0x3f).toInt64)), (.int r_258), (.ref b259), (.ref b259)] X259 hx hby e5_152_1 rfl rfl ?_
        refine own_cRi X259 hx hZ hown rfl (wd42 hw) (wd43 hw) (by decide) (wd44 hw) (wd41 hw) (rm9n l Z a0 hw [] b259 r_258 ((((own_start lv q).toUInt64 >>> (r_258 &&& 0x3f).toInt64.toUInt64).toInt64) <<< (r_258 &&& 0x3f).toInt64) (.int (0 : Int32)) (.long (0 : Int64)) .null h259 n0 (by omega) A259 F260 F261 F262 F264 F263 (by omega)) e259  [(.int r_258), (.long ((((own_start lv q).toUInt64 >>> (r_258 &&& 0x3f).toInt64.toUInt64).toInt64) <<< (r_258 &&& 0x3f).toInt64)), .null] [(.ref b259)] 156 1 (hb hby d5_153) rfl (by rw [hml]; rfl) rfl rfl (lenOf pd_5 rfl) rfl (by decide) fun v265 T265 Lc265 X265 hQ265 => ?_
        obtain ⟨rfl, N265q, K265, G265_0, G265_1, G265_2, G265_3, G265_4, G265_5⟩ := hQ265
        have N265 := Fr.app N258 N265q
        have z265 := K265.1
        have lt265_0 : @LT.lt Nat _ b259 (Array.size T265.heap) := G265_0.lt
        refine own_rl 160 #[.val (.ref tt), .val (.int lv), .val (.int q), .val (.ref vo), .val (.long (own_start lv q)), .second, .val .null, .val (.ref na), .val (.ref b212), .val (.ref b259), .val (.int r_258)] [(.ref b259)] X265 hx hby e5_156_2 rfl rfl ?_
        as_aux_lemma =>
          refine own_ru 162 [(.ref na), (.ref b259)] X265 hx hby e5_160_1 rfl rfl ?_
          have f266 := ((Fld.ext E259 f221).keep K265 (own_nS (by omega) nin0))
          refine own_cR X265 hx hZ hown (wd84 hw) (wd85 hw) (wd86 hw) (wd40 hw) (by decide) (wd87 hw) (wd41 hw) (rm18 l Z a0 hw [] b259 na sa r_258 ((((own_start lv q).toUInt64 >>> (r_258 &&& 0x3f).toInt64.toUInt64).toInt64) <<< (r_258 &&& 0x3f).toInt64) .null .null .null T265.heap n0 (by omega) G265_0 G265_1 G265_2 G265_3 G265_4 G265_5 f266 (by omega)) rfl G265_0 [(.ref na)] [] 165 0 (hb hby d5_162) rfl (by rw [hml]; rfl) rfl rfl (lenOf pd_9 rfl) rfl (by decide) fun v267 T267 Lc267 X267 hQ267 => ?_
          obtain ⟨vl_267, vh_267, rfl, N267q, K267, G267_0, G267_1, G267_2, G267_3, G267_4, G267_5, hvd267⟩ := hQ267
          have N267 := Fr.app N265 N267q
          have z267 := K267.1
          have lt267_0 : @LT.lt Nat _ b259 (Array.size T267.heap) := G267_0.lt
          rcases hvd267 with ⟨hp162, rfl, rfl⟩ | ⟨hp162, rfl, rfl⟩
          · refine own_ru 169 [(.ref b212), (.ref b259)] X267 hx hby e5_165_2 rfl rfl ?_
            have f268 := (((Fld.ext E259 G218_2).keep K265 (own_nS (by omega) nin0)).keep K267 (own_nS (by omega) nin0))
            refine own_cR X267 hx hZ hown (wd84 hw) (wd85 hw) (wd86 hw) (wd40 hw) (by decide) (wd87 hw) (wd41 hw) (rm18 l Z a0 hw [] b259 b212 (own_start lv q) r_258 ((((own_start lv q).toUInt64 >>> (r_258 &&& 0x3f).toInt64.toUInt64).toInt64) <<< (r_258 &&& 0x3f).toInt64) .null (.ref na) .null T267.heap n0 (by omega) G267_0 G267_1 G267_2 G267_3 G267_4 G267_5 f268 (by omega)) rfl G267_0 [(.ref b212)] [] 172 0 (hb hby d5_169) rfl (by rw [hml]; rfl) rfl rfl (lenOf pd_9 rfl) rfl (by decide) fun v269 T269 Lc269 X269 hQ269 => ?_
            obtain ⟨vl_269, vh_269, rfl, N269q, K269, G269_0, G269_1, G269_2, G269_3, G269_4, G269_5, hvd269⟩ := hQ269
            have N269 := Fr.app N267 N269q
            have z269 := K269.1
            have lt269_0 : @LT.lt Nat _ b259 (Array.size T269.heap) := G269_0.lt
            rcases hvd269 with ⟨hp169, rfl, rfl⟩ | ⟨hp169, rfl, rfl⟩
            · refine own_ru 179 [(.ref b259), (.long (own_start lv q)), .null, (.ref tt)] X269 hx hby e5_172_4 rfl rfl ?_
              have f270 := (Exa.keep (Exa.keep (Exa.keep (Exa.ext E259 (Exa.keep (Exa.ext E212 P0) K218)) K265) K267) K269)
              have f271 := ((((Fld.ext E259 ((Fld.ext E212 P1).keep K218 (own_nS (by omega) nin0))).keep K265 (own_nS (by omega) nin0)).keep K267 (own_nS (by omega) nin0)).keep K269 (own_nS (by omega) nin0))
              refine own_cG X269 hx hZ hown (wd52 hw) (wd53 hw) (own_selPriv (mvT hZ (wd1 hw)) (Cond.privateMethod_at (mvP hZ (wd54 hw) (args := #[]))) (mvT hZ (wd53 hw)) (by decide)) (wd54 hw) (by decide) (wd55 hw) (wd2 hw) (rm10n l Z a0 hw [] tt (own_start lv q) (.ref b259) (.ref na) T269.heap n0 (by omega) f270 f271 (by omega) rfl) rfl f270 [.null, (.long (own_start lv q)), (.ref b259)] [] 182 0 (hb hby d5_179) rfl (by rw [hml]; rfl) rfl rfl (lenOf pd_6 rfl) rfl (by decide) fun v272 T272 Lc272 X272 hQ272 => ?_
              obtain ⟨rfl, N272q, K272, G272_0, G272_1⟩ := hQ272
              have N272 := Fr.app N269 N272q
              have z272 := K272.1
              have lt272_0 : @LT.lt Nat _ tt (Array.size T272.heap) := G272_0.lt
              have FKr := FK.2 _ U258_0
              have hq273 : Q5l Z tt lv q vo na la sa va h0 n0 none T272.heap _ := ⟨rfl, N272, (by omega), (by exfalso; exact FKr.2.2.1 hp162 hp169)⟩
              exact own_retV X272 hx hlk hrt (hb hby d5_182) rfl hq273 (by decide) (by decide)
            · refine own_ru 179 [(.ref b259), (.long (own_start lv q)), .null, (.ref tt)] X269 hx hby e5_172_4 rfl rfl ?_
              have f274 := (Exa.keep (Exa.keep (Exa.keep (Exa.ext E259 (Exa.keep (Exa.ext E212 P0) K218)) K265) K267) K269)
              have f275 := ((((Fld.ext E259 ((Fld.ext E212 P1).keep K218 (own_nS (by omega) nin0))).keep K265 (own_nS (by omega) nin0)).keep K267 (own_nS (by omega) nin0)).keep K269 (own_nS (by omega) nin0))
              refine own_cG X269 hx hZ hown (wd52 hw) (wd53 hw) (own_selPriv (mvT hZ (wd1 hw)) (Cond.privateMethod_at (mvP hZ (wd54 hw) (args := #[]))) (mvT hZ (wd53 hw)) (by decide)) (wd54 hw) (by decide) (wd55 hw) (wd2 hw) (rm10n l Z a0 hw [] tt (own_start lv q) (.ref b259) (.ref na) T269.heap n0 (by omega) f274 f275 (by omega) rfl) rfl f274 [.null, (.long (own_start lv q)), (.ref b259)] [] 182 0 (hb hby d5_179) rfl (by rw [hml]; rfl) rfl rfl (lenOf pd_6 rfl) rfl (by decide) fun v276 T276 Lc276 X276 hQ276 => ?_
              obtain ⟨rfl, N276q, K276, G276_0, G276_1⟩ := hQ276
              have N276 := Fr.app N269 N276q
              have z276 := K276.1
              have lt276_0 : @LT.lt Nat _ tt (Array.size T276.heap) := G276_0.lt
              have FKr := FK.2 _ U258_0
              have f278 := (Exa.keep G269_0 K276)
              have f279 := (G269_1.keep K276 (own_nS (by omega) nin0))
              have f280 := (G269_2.keep K276 (own_nS (by omega) nin0))
              have f281 := (G269_4.keep K276 (own_nS (by omega) nin0))
              have f282 := (G269_5.keep K276 (own_nS (by omega) nin0))
              have f283 := (G269_3.keep K276 (own_nS (by omega) nin0))
              have f284 := (Exa.keep (Exa.keep (Exa.keep (Exa.keep (Exa.ext E259 (Exa.keep (Exa.ext E212 P2) K218)) K265) K267) K269) K276)
              have f285 := (((((Fld.ext E259 f219).keep K265 (own_nS (by omega) nin0)).keep K267 (own_nS (by omega) nin0)).keep K269 (own_nS (by omega) nin0)).keep K276 (own_nS (by omega) nin0))
              have f286 := (((f266.keep K267 (own_nS (by omega) nin0)).keep K269 (own_nS (by omega) nin0)).keep K276 (own_nS (by omega) nin0))
              have f287 := (((((Fld.ext E259 ((Fld.ext E212 P5).keep K218 (own_nS (by omega) nin0))).keep K265 (own_nS (by omega) nin0)).keep K267 (own_nS (by omega) nin0)).keep K269 (own_nS (by omega) nin0)).keep K276 (own_nS (by omega) nin0))
              have f288 := (((((Fld.ext E259 ((Fld.ext E212 P6).keep K218 (own_nS (by omega) nin0))).keep K265 (own_nS (by omega) nin0)).keep K267 (own_nS (by omega) nin0)).keep K269 (own_nS (by omega) nin0)).keep K276 (own_nS (by omega) nin0))
              have f289 := (((((Fld.ext E259 ((Fld.ext E212 P7).keep K218 (own_nS (by omega) nin0))).keep K265 (own_nS (by omega) nin0)).keep K267 (own_nS (by omega) nin0)).keep K269 (own_nS (by omega) nin0)).keep K276 (own_nS (by omega) nin0))
              have f290 := (Exa.keep (Exa.keep (Exa.keep (Exa.keep (Exa.ext E259 G218_0) K265) K267) K269) K276)
              have f291 := (((((Fld.ext E259 G218_1).keep K265 (own_nS (by omega) nin0)).keep K267 (own_nS (by omega) nin0)).keep K269 (own_nS (by omega) nin0)).keep K276 (own_nS (by omega) nin0))
              have f292 := ((f268.keep K269 (own_nS (by omega) nin0)).keep K276 (own_nS (by omega) nin0))
              have f293 := (((((Fld.ext E259 G218_4).keep K265 (own_nS (by omega) nin0)).keep K267 (own_nS (by omega) nin0)).keep K269 (own_nS (by omega) nin0)).keep K276 (own_nS (by omega) nin0))
              have f294 := (((((Fld.ext E259 G218_5).keep K265 (own_nS (by omega) nin0)).keep K267 (own_nS (by omega) nin0)).keep K269 (own_nS (by omega) nin0)).keep K276 (own_nS (by omega) nin0))
              have f295 := (((((Fld.ext E259 G218_3).keep K265 (own_nS (by omega) nin0)).keep K267 (own_nS (by omega) nin0)).keep K269 (own_nS (by omega) nin0)).keep K276 (own_nS (by omega) nin0))
              have hq277 : Q5l Z tt lv q vo na la sa va h0 n0 none T276.heap _ := ⟨rfl, N276, (by omega), Or.inr (Or.inr (Or.inr (Or.inr (Or.inl ⟨b259, na, b212, _, _, _, _, G276_0, G276_1, f278, f279, f280, f281, f282, f283, f284, f285, f286, f287, f288, f289, f290, f291, f292, f293, f294, f295, FKr.1, FKr.2.1, hp162, hp169, by omega, by omega, by omega, by omega, by omega, by omega, by omega, by omega, by omega, by omega⟩))))⟩
              exact own_retV X276 hx hlk hrt (hb hby d5_182) rfl hq277 (by decide) (by decide)
          · refine own_ru 169 [(.ref b212), (.ref b259)] X267 hx hby e5_165_2 rfl rfl ?_
            have f296 := (((Fld.ext E259 G218_2).keep K265 (own_nS (by omega) nin0)).keep K267 (own_nS (by omega) nin0))
            refine own_cR X267 hx hZ hown (wd84 hw) (wd85 hw) (wd86 hw) (wd40 hw) (by decide) (wd87 hw) (wd41 hw) (rm18 l Z a0 hw [] b259 b212 (own_start lv q) r_258 ((((own_start lv q).toUInt64 >>> (r_258 &&& 0x3f).toInt64.toUInt64).toInt64) <<< (r_258 &&& 0x3f).toInt64) .null .null (.ref na) T267.heap n0 (by omega) G267_0 G267_1 G267_2 G267_3 G267_4 G267_5 f296 (by omega)) rfl G267_0 [(.ref b212)] [] 172 0 (hb hby d5_169) rfl (by rw [hml]; rfl) rfl rfl (lenOf pd_9 rfl) rfl (by decide) fun v297 T297 Lc297 X297 hQ297 => ?_
            obtain ⟨vl_297, vh_297, rfl, N297q, K297, G297_0, G297_1, G297_2, G297_3, G297_4, G297_5, hvd297⟩ := hQ297
            have N297 := Fr.app N267 N297q
            have z297 := K297.1
            have lt297_0 : @LT.lt Nat _ b259 (Array.size T297.heap) := G297_0.lt
            rcases hvd297 with ⟨hp169, rfl, rfl⟩ | ⟨hp169, rfl, rfl⟩
            · refine own_ru 179 [(.ref b259), (.long (own_start lv q)), .null, (.ref tt)] X297 hx hby e5_172_4 rfl rfl ?_
              have f298 := (Exa.keep (Exa.keep (Exa.keep (Exa.ext E259 (Exa.keep (Exa.ext E212 P0) K218)) K265) K267) K297)
              have f299 := ((((Fld.ext E259 ((Fld.ext E212 P1).keep K218 (own_nS (by omega) nin0))).keep K265 (own_nS (by omega) nin0)).keep K267 (own_nS (by omega) nin0)).keep K297 (own_nS (by omega) nin0))
              refine own_cG X297 hx hZ hown (wd52 hw) (wd53 hw) (own_selPriv (mvT hZ (wd1 hw)) (Cond.privateMethod_at (mvP hZ (wd54 hw) (args := #[]))) (mvT hZ (wd53 hw)) (by decide)) (wd54 hw) (by decide) (wd55 hw) (wd2 hw) (rm10n l Z a0 hw [] tt (own_start lv q) (.ref b259) (.ref na) T297.heap n0 (by omega) f298 f299 (by omega) rfl) rfl f298 [.null, (.long (own_start lv q)), (.ref b259)] [] 182 0 (hb hby d5_179) rfl (by rw [hml]; rfl) rfl rfl (lenOf pd_6 rfl) rfl (by decide) fun v300 T300 Lc300 X300 hQ300 => ?_
              obtain ⟨rfl, N300q, K300, G300_0, G300_1⟩ := hQ300
              have N300 := Fr.app N297 N300q
              have z300 := K300.1
              have lt300_0 : @LT.lt Nat _ tt (Array.size T300.heap) := G300_0.lt
              have FKr := FK.2 _ U258_0
              have f302 := (Exa.keep G297_0 K300)
              have f303 := (G297_1.keep K300 (own_nS (by omega) nin0))
              have f304 := (G297_2.keep K300 (own_nS (by omega) nin0))
              have f305 := (G297_4.keep K300 (own_nS (by omega) nin0))
              have f306 := (G297_5.keep K300 (own_nS (by omega) nin0))
              have f307 := (G297_3.keep K300 (own_nS (by omega) nin0))
              have f308 := (Exa.keep (Exa.keep (Exa.keep (Exa.keep (Exa.ext E259 G218_0) K265) K267) K297) K300)
              have f309 := (((((Fld.ext E259 G218_1).keep K265 (own_nS (by omega) nin0)).keep K267 (own_nS (by omega) nin0)).keep K297 (own_nS (by omega) nin0)).keep K300 (own_nS (by omega) nin0))
              have f310 := ((f296.keep K297 (own_nS (by omega) nin0)).keep K300 (own_nS (by omega) nin0))
              have f311 := (((((Fld.ext E259 G218_4).keep K265 (own_nS (by omega) nin0)).keep K267 (own_nS (by omega) nin0)).keep K297 (own_nS (by omega) nin0)).keep K300 (own_nS (by omega) nin0))
              have f312 := (((((Fld.ext E259 G218_5).keep K265 (own_nS (by omega) nin0)).keep K267 (own_nS (by omega) nin0)).keep K297 (own_nS (by omega) nin0)).keep K300 (own_nS (by omega) nin0))
              have f313 := (((((Fld.ext E259 G218_3).keep K265 (own_nS (by omega) nin0)).keep K267 (own_nS (by omega) nin0)).keep K297 (own_nS (by omega) nin0)).keep K300 (own_nS (by omega) nin0))
              have f314 := (Exa.keep (Exa.keep (Exa.keep (Exa.keep (Exa.ext E259 (Exa.keep (Exa.ext E212 P2) K218)) K265) K267) K297) K300)
              have f315 := (((((Fld.ext E259 f219).keep K265 (own_nS (by omega) nin0)).keep K267 (own_nS (by omega) nin0)).keep K297 (own_nS (by omega) nin0)).keep K300 (own_nS (by omega) nin0))
              have f316 := (((f266.keep K267 (own_nS (by omega) nin0)).keep K297 (own_nS (by omega) nin0)).keep K300 (own_nS (by omega) nin0))
              have f317 := (((((Fld.ext E259 ((Fld.ext E212 P5).keep K218 (own_nS (by omega) nin0))).keep K265 (own_nS (by omega) nin0)).keep K267 (own_nS (by omega) nin0)).keep K297 (own_nS (by omega) nin0)).keep K300 (own_nS (by omega) nin0))
              have f318 := (((((Fld.ext E259 ((Fld.ext E212 P6).keep K218 (own_nS (by omega) nin0))).keep K265 (own_nS (by omega) nin0)).keep K267 (own_nS (by omega) nin0)).keep K297 (own_nS (by omega) nin0)).keep K300 (own_nS (by omega) nin0))
              have f319 := (((((Fld.ext E259 ((Fld.ext E212 P7).keep K218 (own_nS (by omega) nin0))).keep K265 (own_nS (by omega) nin0)).keep K267 (own_nS (by omega) nin0)).keep K297 (own_nS (by omega) nin0)).keep K300 (own_nS (by omega) nin0))
              have hq301 : Q5l Z tt lv q vo na la sa va h0 n0 none T300.heap _ := ⟨rfl, N300, (by omega), Or.inr (Or.inr (Or.inr (Or.inr (Or.inr ⟨b259, b212, na, _, _, _, _, G300_0, G300_1, f302, f303, f304, f305, f306, f307, f308, f309, f310, f311, f312, f313, f314, f315, f316, f317, f318, f319, FKr.2.1, FKr.1, hp169, hp162, by omega, by omega, by omega, by omega, by omega, by omega, by omega, by omega, by omega, by omega⟩))))⟩
              exact own_retV X300 hx hlk hrt (hb hby d5_182) rfl hq301 (by decide) (by decide)
            · refine own_ru 179 [(.ref b259), (.long (own_start lv q)), .null, (.ref tt)] X297 hx hby e5_172_4 rfl rfl ?_
              have f320 := (Exa.keep (Exa.keep (Exa.keep (Exa.ext E259 (Exa.keep (Exa.ext E212 P0) K218)) K265) K267) K297)
              have f321 := ((((Fld.ext E259 ((Fld.ext E212 P1).keep K218 (own_nS (by omega) nin0))).keep K265 (own_nS (by omega) nin0)).keep K267 (own_nS (by omega) nin0)).keep K297 (own_nS (by omega) nin0))
              refine own_cG X297 hx hZ hown (wd52 hw) (wd53 hw) (own_selPriv (mvT hZ (wd1 hw)) (Cond.privateMethod_at (mvP hZ (wd54 hw) (args := #[]))) (mvT hZ (wd53 hw)) (by decide)) (wd54 hw) (by decide) (wd55 hw) (wd2 hw) (rm10n l Z a0 hw [] tt (own_start lv q) (.ref b259) (.ref na) T297.heap n0 (by omega) f320 f321 (by omega) rfl) rfl f320 [.null, (.long (own_start lv q)), (.ref b259)] [] 182 0 (hb hby d5_179) rfl (by rw [hml]; rfl) rfl rfl (lenOf pd_6 rfl) rfl (by decide) fun v322 T322 Lc322 X322 hQ322 => ?_
              obtain ⟨rfl, N322q, K322, G322_0, G322_1⟩ := hQ322
              have N322 := Fr.app N297 N322q
              have z322 := K322.1
              have lt322_0 : @LT.lt Nat _ tt (Array.size T322.heap) := G322_0.lt
              have FKr := FK.2 _ U258_0
              have hq323 : Q5l Z tt lv q vo na la sa va h0 n0 none T322.heap _ := ⟨rfl, N322, (by omega), (by exfalso; exact hp169 (FKr.2.2.2 hp162))⟩
              exact own_retV X322 hx hlk hrt (hb hby d5_182) rfl hq323 (by decide) (by decide)
def own_R1 (Z : State) (h : Heap) (n0 : Nat) (tt : Addr) (L0 : Int32) (S0 : Int64) (l1 : Int32) (s1 : Int64) : Prop := (¬ (l1 = L0 ∧ s1 = S0) ∧ own_Leaf Z h n0 tt l1 s1) ∨ ((l1 = L0 ∧ s1 = S0) ∧ own_Emp Z h n0 tt)
def own_R2 (Z : State) (h : Heap) (n0 : Nat) (tt : Addr) (L0 : Int32) (S0 : Int64) (l1 : Int32) (s1 : Int64) (l2 : Int32) (s2 : Int64) : Prop := ((¬ (l1 = L0 ∧ s1 = S0) ∧ ¬ (l2 = L0 ∧ s2 = S0)) ∧ own_Two Z h n0 tt l1 s1 l2 s2) ∨ (((l1 = L0 ∧ s1 = S0) ∧ ¬ (l2 = L0 ∧ s2 = S0)) ∧ own_Leaf Z h n0 tt l2 s2) ∨ ((¬ (l1 = L0 ∧ s1 = S0) ∧ (l2 = L0 ∧ s2 = S0)) ∧ own_Leaf Z h n0 tt l1 s1)

theorem own_nw {l1 l2 : Int32} {s1 s2 : Int64} (h : own_wid l1 s1 l2 s2) : ¬ (l1 = l2 ∧ s1 = s2) := fun q => by
  have h1 := h.1
  rw [q.1, Int32.lt_iff_toInt_lt] at h1
  omega
theorem own_nc {l1 l2 lv : Int32} {s1 s2 S : Int64} (h : own_wid l1 s1 l2 s2) (n : ¬ own_wid l1 s1 lv S) : ¬ (l2 = lv ∧ s2 = S) := fun q => n (by rw [← q.1, ← q.2]; exact h)
theorem own_ns1 {l1 l2 lv : Int32} {s2 S : Int64} (h : own_low l1 s2) (n : ¬ own_low l1 S) : ¬ (l2 = lv ∧ s2 = S) := fun q => n (by rw [← q.2]; exact h)
theorem own_ns2 {l1 l2 lv : Int32} {s2 S : Int64} (h : ¬ own_low l1 s2) (n : own_low l1 S) : ¬ (l2 = lv ∧ s2 = S) := fun q => h (by rw [q.2]; exact n)
theorem own_na {l1 l2 lv : Int32} {s1 s2 S : Int64} (h : own_wid l1 s1 l2 s2) (e : l1 = lv ∧ s1 = S) : ¬ (l2 = lv ∧ s2 = S) := fun q => own_nw h ⟨e.1.trans q.1.symm, e.2.trans q.2.symm⟩
theorem own_TwoC {Z : State} {h : Heap} {n0 : Nat} {tt : Addr} {l1 l2 : Int32} {s1 s2 : Int64} (H : own_Two Z h n0 tt l1 s1 l2 s2) : own_Two Z h n0 tt l2 s2 l1 s1 := by
  rcases H with H | H | H | H | H | H
  · exact Or.inr (Or.inr (Or.inl H))
  · exact Or.inr (Or.inr (Or.inr (Or.inl H)))
  · exact Or.inl H
  · exact Or.inr (Or.inl H)
  · exact Or.inr (Or.inr (Or.inr (Or.inr (Or.inr H))))
  · exact Or.inr (Or.inr (Or.inr (Or.inr (Or.inl H))))
section InvS
variable {Z : State} {h : Heap} {n0 : Nat} {tt : Addr} {l1 l2 L0 : Int32} {s1 s2 S0 : Int64} {pa pb : Prop}
theorem own_R2inv (ha : pa) (hb : pb) (H : own_R2 Z h n0 tt L0 S0 l1 s1 l2 s2) : own_Inv Z h n0 tt l1 s1 l2 s2 (pa ∧ ¬ (l1 = L0 ∧ s1 = S0)) (pb ∧ ¬ (l2 = L0 ∧ s2 = S0)) := by
  rcases H with ⟨⟨n1, n2⟩, T⟩ | ⟨⟨e1, n2⟩, T⟩ | ⟨⟨n1, e2⟩, T⟩
  · exact Or.inl ⟨⟨ha, n1⟩, ⟨hb, n2⟩, T⟩
  · exact Or.inr (Or.inr (Or.inl ⟨fun q => q.2 e1, ⟨hb, n2⟩, T⟩))
  · exact Or.inr (Or.inl ⟨⟨ha, n1⟩, fun q => q.2 e2, T⟩)
theorem own_R2swap (ha : pa) (hb : pb) (H : own_R2 Z h n0 tt L0 S0 l2 s2 l1 s1) : own_Inv Z h n0 tt l1 s1 l2 s2 (pa ∧ ¬ (l1 = L0 ∧ s1 = S0)) (pb ∧ ¬ (l2 = L0 ∧ s2 = S0)) := by
  rcases H with ⟨⟨n2, n1⟩, T⟩ | ⟨⟨e2, n1⟩, T⟩ | ⟨⟨n2, e1⟩, T⟩
  · exact Or.inl ⟨⟨ha, n1⟩, ⟨hb, n2⟩, own_TwoC T⟩
  · exact Or.inr (Or.inl ⟨⟨ha, n1⟩, fun q => q.2 e2, T⟩)
  · exact Or.inr (Or.inr (Or.inl ⟨fun q => q.2 e1, ⟨hb, n2⟩, T⟩))
theorem own_R1a (ha : pa) (hb : ¬ pb) (H : own_R1 Z h n0 tt L0 S0 l1 s1) : own_Inv Z h n0 tt l1 s1 l2 s2 (pa ∧ ¬ (l1 = L0 ∧ s1 = S0)) (pb ∧ ¬ (l2 = L0 ∧ s2 = S0)) := by
  rcases H with ⟨n1, T⟩ | ⟨e1, T⟩
  · exact Or.inr (Or.inl ⟨⟨ha, n1⟩, fun q => hb q.1, T⟩)
  · exact Or.inr (Or.inr (Or.inr ⟨fun q => q.2 e1, fun q => hb q.1, T⟩))
theorem own_R1b (ha : ¬ pa) (hb : pb) (H : own_R1 Z h n0 tt L0 S0 l2 s2) : own_Inv Z h n0 tt l1 s1 l2 s2 (pa ∧ ¬ (l1 = L0 ∧ s1 = S0)) (pb ∧ ¬ (l2 = L0 ∧ s2 = S0)) := by
  rcases H with ⟨n1, T⟩ | ⟨e1, T⟩
  · exact Or.inr (Or.inr (Or.inl ⟨fun q => ha q.1, ⟨hb, n1⟩, T⟩))
  · exact Or.inr (Or.inr (Or.inr ⟨fun q => ha q.1, fun q => q.2 e1, T⟩))
theorem own_R0 (ha : ¬ pa) (hb : ¬ pb) (H : own_Emp Z h n0 tt) : own_Inv Z h n0 tt l1 s1 l2 s2 (pa ∧ ¬ (l1 = L0 ∧ s1 = S0)) (pb ∧ ¬ (l2 = L0 ∧ s2 = S0)) := Or.inr (Or.inr (Or.inr ⟨fun q => ha q.1, fun q => hb q.1, H⟩))
theorem own_InvIff {qa qb : Prop} (ea : pa ↔ qa) (eb : pb ↔ qb) (H : own_Inv Z h n0 tt l1 s1 l2 s2 pa pb) : own_Inv Z h n0 tt l1 s1 l2 s2 qa qb := by
  rw [← propext ea, ← propext eb]; exact H
theorem own_invR {r : Prop} (hr : r) (H : own_Inv Z h n0 tt l1 s1 l2 s2 (pa ∧ ¬ (l1 = L0 ∧ s1 = S0)) (pb ∧ ¬ (l2 = L0 ∧ s2 = S0))) : own_Inv Z h n0 tt l1 s1 l2 s2 (pa ∧ ¬ (r ∧ L0 = l1 ∧ S0 = s1)) (pb ∧ ¬ (r ∧ L0 = l2 ∧ S0 = s2)) :=
  own_InvIff ⟨fun q => ⟨q.1, fun z => q.2 ⟨z.2.1.symm, z.2.2.symm⟩⟩, fun q => ⟨q.1, fun z => q.2 ⟨hr, z.1.symm, z.2.symm⟩⟩⟩ ⟨fun q => ⟨q.1, fun z => q.2 ⟨z.2.1.symm, z.2.2.symm⟩⟩, fun q => ⟨q.1, fun z => q.2 ⟨hr, z.1.symm, z.2.symm⟩⟩⟩ H
theorem own_invN {r qa qb : Prop} (hr : ¬ r) (H : own_Inv Z h n0 tt l1 s1 l2 s2 pa pb) : own_Inv Z h n0 tt l1 s1 l2 s2 (pa ∧ ¬ (r ∧ qa)) (pb ∧ ¬ (r ∧ qb)) :=
  own_InvIff ⟨fun q => ⟨q, fun z => hr z.1⟩, fun q => q.1⟩ ⟨fun q => ⟨q, fun z => hr z.1⟩, fun q => q.1⟩ H
theorem own_InvE (H : own_Inv Z h n0 tt l1 s1 l2 s2 pa pb) : Exa Z h tt "com/example/mullion/mullion/service/DyadicTrie" := by
  rcases H with ⟨-, -, H⟩ | ⟨-, -, H⟩ | ⟨-, -, H⟩ | ⟨-, -, H⟩
  · rcases H with H | H | H | H | H | H
    · obtain ⟨_, _, _, _, H⟩ := H; exact H.1
    · obtain ⟨_, _, _, _, H⟩ := H; exact H.1
    · obtain ⟨_, _, _, _, H⟩ := H; exact H.1
    · obtain ⟨_, _, _, _, H⟩ := H; exact H.1
    · obtain ⟨_, _, _, _, _, _, _, H⟩ := H; exact H.1
    · obtain ⟨_, _, _, _, _, _, _, H⟩ := H; exact H.1
  · obtain ⟨_, _, H⟩ := H; exact H.1
  · obtain ⟨_, _, H⟩ := H; exact H.1
  · exact H.1
theorem own_InvRoot (H : own_Inv Z h n0 tt l1 s1 l2 s2 pa pb) : ((¬ pa ∧ ¬ pb) ∧ Fld Z h tt "com/example/mullion/mullion/service/DyadicTrie" "root" "Lcom/example/mullion/mullion/service/DyadicTrie$Node;" .null) ∨ ∃ rt : Addr, (pa ∨ pb) ∧ Fld Z h tt "com/example/mullion/mullion/service/DyadicTrie" "root" "Lcom/example/mullion/mullion/service/DyadicTrie$Node;" (.ref rt) := by
  rcases H with ⟨a, -, H⟩ | ⟨a, -, H⟩ | ⟨-, a, H⟩ | ⟨a, b, H⟩
  · refine Or.inr ?_
    rcases H with H | H | H | H | H | H
    · obtain ⟨_, _, _, _, H⟩ := H; exact ⟨_, Or.inl a, H.2.1⟩
    · obtain ⟨_, _, _, _, H⟩ := H; exact ⟨_, Or.inl a, H.2.1⟩
    · obtain ⟨_, _, _, _, H⟩ := H; exact ⟨_, Or.inl a, H.2.1⟩
    · obtain ⟨_, _, _, _, H⟩ := H; exact ⟨_, Or.inl a, H.2.1⟩
    · obtain ⟨_, _, _, _, _, _, _, H⟩ := H; exact ⟨_, Or.inl a, H.2.1⟩
    · obtain ⟨_, _, _, _, _, _, _, H⟩ := H; exact ⟨_, Or.inl a, H.2.1⟩
  · obtain ⟨_, _, H⟩ := H; exact Or.inr ⟨_, Or.inl a, H.2.1⟩
  · obtain ⟨_, _, H⟩ := H; exact Or.inr ⟨_, Or.inr a, H.2.1⟩
  · exact Or.inl ⟨⟨a, b⟩, H.2.1⟩
end InvS
theorem own_mono {lch : Launch} {x0 : MethodName} {S : Spec} {P : Array Value → State → Prop} {K : Program → Env → List Frame → State → Array Value → Prop} {Q Q' : Option Value → Heap → List Loc → Prop} {a b : Nat} (hm : MetFree lch x0 S P K (fun _ U o U' => ∃ v L, o = .returned v ∧ Q v U'.heap L ∧ FrameEnd U o U' L a b)) (hq : ∀ v h L, Q v h L → Q' v h L) :
    MetFree lch x0 S P K (fun _ U o U' => ∃ v L, o = .returned v ∧ Q' v U'.heap L ∧ FrameEnd U o U' L a b) := by
  intro p e h1 h2 h3 s m args below h4 h5 h6 h7
  obtain ⟨n, o, r1, r2, r3, v, L, r4, r5, r6⟩ := hm p e h1 h2 h3 s m args below h4 h5 h6 h7
  exact ⟨n, o, r1, r2, r3, v, L, r4, hq _ _ _ r5, r6⟩
theorem own_nsym {a b : Int32} {c d : Int64} (h : ¬ (a = b ∧ c = d)) : ¬ (b = a ∧ d = c) := fun q => h ⟨q.1.symm, q.2.symm⟩
def own_b01 (z : Int32) (P : Prop) : Prop := (z = 1 ∧ P) ∨ (z = 0 ∧ ¬ P)
theorem own_finE {a1 a2 b1 b2 z0 : Prop} {ee : Int32} (H : own_b01 ee ((a1 ∨ a2) ∧ (z0 ∨ (b1 ∨ b2)))) (h : ¬ ((True ∧ ¬ a1) ∧ ¬ a2) ∧ ¬ ((¬ z0 ∧ ¬ b1) ∧ ¬ b2)) : (1 : Int32) = ee := by
  rcases H with H | H
  · exact H.1.symm
  · refine absurd ?_ H.2
    refine ⟨?_, ?_⟩
    · by_cases q : a1
      · exact Or.inl q
      · by_cases q2 : a2
        · exact Or.inr q2
        · exact absurd ⟨⟨trivial, q⟩, q2⟩ h.1
    · by_cases q : z0
      · exact Or.inl q
      · by_cases q2 : b1
        · exact Or.inr (Or.inl q2)
        · by_cases q3 : b2
          · exact Or.inr (Or.inr q3)
          · exact absurd ⟨⟨q, q2⟩, q3⟩ h.2
theorem own_finN {a1 a2 b1 b2 z0 : Prop} {ee : Int32} (H : own_b01 ee ((a1 ∨ a2) ∧ (z0 ∨ (b1 ∨ b2)))) (h : ((True ∧ ¬ a1) ∧ ¬ a2) ∨ ((¬ z0 ∧ ¬ b1) ∧ ¬ b2)) : (0 : Int32) = ee := by
  rcases H with H | H
  · rcases h with h | h
    · exact absurd H.2.1 (fun q => q.elim h.1.2 h.2)
    · exact absurd H.2.2 (fun q => q.elim h.1.1 (fun q => q.elim h.1.2 h.2))
  · exact H.1.symm
theorem own_r33 {q z : Int32} (hv : z = ((q &&& (63 : Int32)) - ((q &&& (63 : Int32)) / (33 : Int32)) * (33 : Int32))) : 0 ≤ z.toInt ∧ z.toInt ≤ 32 := by
  have h1 := c_mask q 63 6 (by decide) (by decide)
  have e : z = (q &&& (63 : Int32)) % (33 : Int32) := by rw [hv]; exact own_irem _ _
  have h2 := c_irem (q &&& (63 : Int32)) 33 33 rfl
  rw [← e] at h2
  have h3 : 0 ≤ (q &&& (63 : Int32)).toInt := by omega
  rw [h2.1 h3]
  have h4 := Int.emod_nonneg (q &&& (63 : Int32)).toInt (show (33 : Int) ≠ 0 by decide)
  have h5 := Int.emod_lt_of_pos (q &&& (63 : Int32)).toInt (show (0 : Int) < 33 by decide)
  omega

abbrev my20 : MethodName := (⟨"com/example/mullion/mullion/service/DyadicTrie", "remove", "(II)V"⟩ : MethodName)
theorem d20_2 : decode prog_41_method_7_code 2 = .ok (.invokestatic 27, 3) := by decide +kernel
theorem d20_13 : decode prog_41_method_7_code 13 = .ok (.getfield 17, 3) := by decide +kernel
theorem d20_20 : decode prog_41_method_7_code 20 = .ok (.ifnull 32, 3) := by decide +kernel
theorem d20_54 : decode prog_41_method_7_code 54 = .ok (.ifnull 21, 3) := by decide +kernel
theorem d20_75 : decode prog_41_method_7_code 75 = .ok (.return_, 1) := by decide +kernel
theorem e20_0_2 : own_dec prog_41_method_7_code 0 [(.iload_n 1, 1), (.iload_n 2, 1)] = true := by decide +kernel
theorem e20_5_6 : own_dec prog_41_method_7_code 5 [(.lstore_n 3, 1), (.aconst_null, 1), (.astore 5, 2), (.aconst_null, 1), (.astore 6, 2), (.aload_n 0, 1)] = true := by decide +kernel
theorem e20_16_2 : own_dec prog_41_method_7_code 16 [(.astore 7, 2), (.aload 7, 2)] = true := by decide +kernel
theorem e20_52_1 : own_dec prog_41_method_7_code 52 [(.aload 7, 2)] = true := by decide +kernel
def Q20e (Z : State) (tt : Addr) (lv : Int32) (q : Int32) (h0 : Heap) (n0 : Nat) (v : Option Value) (h : Heap) (L : List Loc) : Prop := v = none ∧ Fr n0 L ∧ h0.size ≤ h.size ∧ own_Emp Z h n0 tt
set_option maxRecDepth 65536 in
set_option maxHeartbeats 40000000 in
theorem rm20e (l : Launch) (Z : State) (a0 : Array Value) (hw : OW a0 Z) (ws : List Jvm.Cond) (tt : Addr) (lv : Int32) (q : Int32) (h0 : Heap) (n0 : Nat) (Z0 : n0 ≤ h0.size) (P0 : ex7 Z h0 tt) (P1 : fl0 Z h0 tt .null) (g_tt : n0 ≤ tt) :
    own_Met l my20 prog_41_method_7_code 9 none ws (own_rm 4 0 0 80) #[(.ref tt), (.int lv), (.int q)] Z h0 (Q20e Z tt lv q h0 n0) 0 0 := by
  refine own_body (plainFor_of_name pn_1) (fun m => by first | (simp [entryFrame, mkF, argsToLocals, Value.category]; done) | rfl) (Ls := #[.val (.ref tt), .val (.int lv), .val (.int q), .unset, .unset, .unset, .unset, .unset, .unset]) fun p e s m below meth c s₁ X0 hx hby hml hZ e0 hown hnm hlk hrt => ?_
  have N0 := Fr.nil n0
  have lt_P0 : @LT.lt Nat _ tt (Array.size h0) := P0.lt
  refine own_ru 2 [(.int q), (.int lv)] X0 hx hby e20_0_2 rfl rfl ?_
  refine own_cS X0 hx hZ hown (wd28 hw) (wd29 hw) (by decide) (wd30 hw) (wd2 hw) (rm6 l Z a0 hw [] lv q h0 n0 (by omega) ) e0  [(.int lv), (.int q)] [] 5 0 (hb hby d20_2) rfl (by rw [hml]; rfl) rfl rfl (lenOf pd_1 rfl) rfl (by decide) fun v324 T324 Lc324 X324 hQ324 => ?_
  obtain ⟨rfl, N324q, e324⟩ := hQ324
  have N324 := Fr.app N0 N324q
  refine own_rl 13 #[.val (.ref tt), .val (.int lv), .val (.int q), .val (.long (own_start lv q)), .second, .val .null, .val .null, .unset, .unset] [(.ref tt)] X324 hx hby e20_5_6 rfl rfl ?_
  refine own_gF X324 hx hZ hown (host := "") (Or.inl (wd14 hw)) Via.refl e324 P1 16 rfl (hb hby d20_13) rfl fun T325 X325 e325 => ?_
  refine own_rl 20 #[.val (.ref tt), .val (.int lv), .val (.int q), .val (.long (own_start lv q)), .second, .val .null, .val .null, .val .null, .unset] [.null] X325 hx hby e20_16_2 rfl rfl ?_
  refine own_st 52 [] (fun t k => XS.ifnullYes X325.here hx rfl (pc0 := 20) (pc' := 52) rfl (hb hby d20_20) rfl (by decide) (by decide) k) ?_
  refine own_ru 54 [.null] X325 hx hby e20_52_1 rfl rfl ?_
  refine own_st 75 [] (fun t k => XS.ifnullYes X325.here hx rfl (pc0 := 54) (pc' := 75) rfl (hb hby d20_54) rfl (by decide) (by decide) k) ?_
  have hq326 : Q20e Z tt lv q h0 n0 none h0 _ := ⟨rfl, N324, (by omega), ⟨P0, P1, by omega⟩⟩
  exact own_retV X325 hx hlk hrt (hb hby d20_75) e325 hq326 (by decide) (by decide)
theorem d20_27 : decode prog_41_method_7_code 27 = .ok (.invokevirtual 31, 3) := by decide +kernel
theorem d20_30 : decode prog_41_method_7_code 30 = .ok (.ifCond .eq 22, 3) := by decide +kernel
theorem d20_44 : decode prog_41_method_7_code 44 = .ok (.invokevirtual 35, 3) := by decide +kernel
theorem d20_49 : decode prog_41_method_7_code 49 = .ok (.goto (-31), 3) := by decide +kernel
theorem d20_61 : decode prog_41_method_7_code 61 = .ok (.invokevirtual 39, 3) := by decide +kernel
theorem d20_64 : decode prog_41_method_7_code 64 = .ok (.ifCond .eq 11, 3) := by decide +kernel
theorem d20_69 : decode prog_41_method_7_code 69 = .ok (.getfield 42, 3) := by decide +kernel
theorem d20_72 : decode prog_41_method_7_code 72 = .ok (.ifnonnull 4, 3) := by decide +kernel
theorem d20_79 : decode prog_41_method_7_code 79 = .ok (.putfield 42, 3) := by decide +kernel
theorem d20_84 : decode prog_41_method_7_code 84 = .ok (.getfield 65, 3) := by decide +kernel
theorem d20_87 : decode prog_41_method_7_code 87 = .ok (.ifnull 12, 3) := by decide +kernel
theorem d20_101 : decode prog_41_method_7_code 101 = .ok (.invokevirtual 71, 3) := by decide +kernel
theorem d20_112 : decode prog_41_method_7_code 112 = .ok (.invokevirtual 61, 3) := by decide +kernel
theorem d20_117 : decode prog_41_method_7_code 117 = .ok (.ifnonnull 32, 3) := by decide +kernel
theorem d20_122 : decode prog_41_method_7_code 122 = .ok (.ifnull 27, 3) := by decide +kernel
theorem d20_149 : decode prog_41_method_7_code 149 = .ok (.return_, 1) := by decide +kernel
theorem e20_23_3 : own_dec prog_41_method_7_code 23 [(.aload 7, 2), (.iload_n 1, 1), (.lload_n 3, 1)] = true := by decide +kernel
theorem e20_33_6 : own_dec prog_41_method_7_code 33 [(.aload 6, 2), (.astore 5, 2), (.aload 7, 2), (.astore 6, 2), (.aload 7, 2), (.lload_n 3, 1)] = true := by decide +kernel
theorem e20_47_1 : own_dec prog_41_method_7_code 47 [(.astore 7, 2)] = true := by decide +kernel
theorem e20_18_1 : own_dec prog_41_method_7_code 18 [(.aload 7, 2)] = true := by decide +kernel
theorem e20_57_3 : own_dec prog_41_method_7_code 57 [(.aload 7, 2), (.iload_n 1, 1), (.lload_n 3, 1)] = true := by decide +kernel
theorem e20_67_1 : own_dec prog_41_method_7_code 67 [(.aload 7, 2)] = true := by decide +kernel
theorem e20_76_2 : own_dec prog_41_method_7_code 76 [(.aload 7, 2), (.aconst_null, 1)] = true := by decide +kernel
theorem e20_82_1 : own_dec prog_41_method_7_code 82 [(.aload 7, 2)] = true := by decide +kernel
theorem e20_99_1 : own_dec prog_41_method_7_code 99 [(.aload 7, 2)] = true := by decide +kernel
theorem e20_104_5 : own_dec prog_41_method_7_code 104 [(.astore 8, 2), (.aload_n 0, 1), (.aload 6, 2), (.lload_n 3, 1), (.aload 8, 2)] = true := by decide +kernel
theorem e20_115_1 : own_dec prog_41_method_7_code 115 [(.aload 8, 2)] = true := by decide +kernel
theorem e20_120_1 : own_dec prog_41_method_7_code 120 [(.aload 6, 2)] = true := by decide +kernel
theorem pd_11 : parseMethodDescriptor "()Lcom/example/mullion/mullion/service/DyadicTrie$Node;" = some ⟨[], some (.object "com/example/mullion/mullion/service/DyadicTrie$Node")⟩ := by decide +kernel
def Q20l (Z : State) (tt : Addr) (lv : Int32) (q : Int32) (l1 : Int32) (s1 : Int64) (na : Addr) (va : Addr) (h0 : Heap) (n0 : Nat) (v : Option Value) (h : Heap) (L : List Loc) : Prop := v = none ∧ Fr n0 L ∧ h0.size ≤ h.size ∧ own_R1 Z h n0 tt lv (own_start lv q) l1 s1
set_option maxRecDepth 65536 in
set_option maxHeartbeats 40000000 in
theorem rm20l (l : Launch) (Z : State) (a0 : Array Value) (hw : OW a0 Z) (ws : List Jvm.Cond) (tt : Addr) (lv : Int32) (q : Int32) (l1 : Int32) (s1 : Int64) (na : Addr) (va : Addr) (h0 : Heap) (n0 : Nat) (Z0 : n0 ≤ h0.size) (P0 : ex7 Z h0 tt) (P1 : fl0 Z h0 tt (.ref na)) (P2 : ex1 Z h0 na) (P3 : fl2 Z h0 na (.int l1)) (P4 : fl3 Z h0 na (.long s1)) (P5 : fl5 Z h0 na .null) (P6 : fl6 Z h0 na .null) (P7 : fl4 Z h0 na (.ref va)) (g_tt : n0 ≤ tt) (g_na : n0 ≤ na) (ho0 : @Ne Nat tt na) :
    own_Met l my20 prog_41_method_7_code 9 none ws (own_rm 4 0 0 80) #[(.ref tt), (.int lv), (.int q)] Z h0 (Q20l Z tt lv q l1 s1 na va h0 n0) 0 0 := by
  refine own_body (plainFor_of_name pn_1) (fun m => by first | (simp [entryFrame, mkF, argsToLocals, Value.category]; done) | rfl) (Ls := #[.val (.ref tt), .val (.int lv), .val (.int q), .unset, .unset, .unset, .unset, .unset, .unset]) fun p e s m below meth c s₁ X0 hx hby hml hZ e0 hown hnm hlk hrt => ?_
  have N0 := Fr.nil n0
  have lt_P0 : @LT.lt Nat _ tt (Array.size h0) := P0.lt
  have lt_P2 : @LT.lt Nat _ na (Array.size h0) := P2.lt
  refine own_ru 2 [(.int q), (.int lv)] X0 hx hby e20_0_2 rfl rfl ?_
  refine own_cS X0 hx hZ hown (wd28 hw) (wd29 hw) (by decide) (wd30 hw) (wd2 hw) (rm6 l Z a0 hw [] lv q h0 n0 (by omega) ) e0  [(.int lv), (.int q)] [] 5 0 (hb hby d20_2) rfl (by rw [hml]; rfl) rfl rfl (lenOf pd_1 rfl) rfl (by decide) fun v327 T327 Lc327 X327 hQ327 => ?_
  obtain ⟨rfl, N327q, e327⟩ := hQ327
  have N327 := Fr.app N0 N327q
  refine own_rl 13 #[.val (.ref tt), .val (.int lv), .val (.int q), .val (.long (own_start lv q)), .second, .val .null, .val .null, .unset, .unset] [(.ref tt)] X327 hx hby e20_5_6 rfl rfl ?_
  refine own_gF X327 hx hZ hown (host := "") (Or.inl (wd14 hw)) Via.refl e327 P1 16 rfl (hb hby d20_13) rfl fun T328 X328 e328 => ?_
  refine own_rl 20 #[.val (.ref tt), .val (.int lv), .val (.int q), .val (.long (own_start lv q)), .second, .val .null, .val .null, .val (.ref na), .unset] [(.ref na)] X328 hx hby e20_16_2 rfl rfl ?_
  refine own_st 23 [] (fun t k => XS.ifnullNo X328.here hx rfl (hb hby d20_20) rfl k) ?_
  refine own_ru 27 [(.long (own_start lv q)), (.int lv), (.ref na)] X328 hx hby e20_23_3 rfl rfl ?_
  refine own_cR X328 hx hZ hown (wd60 hw) (wd61 hw) (wd62 hw) (wd40 hw) (by decide) (wd63 hw) (wd41 hw) (rm12 l Z a0 hw [] na lv (own_start lv q) l1 s1 h0 n0 (by omega) P2 P3 P4) e328 P2 [(.int lv), (.long (own_start lv q))] [] 30 0 (hb hby d20_27) rfl (by rw [hml]; rfl) rfl rfl (lenOf pd_7 rfl) rfl (by decide) fun v329 T329 Lc329 X329 hQ329 => ?_
  obtain ⟨hvc329, N329q, e329⟩ := hQ329
  have N329 := Fr.app N327 N329q
  rcases hvc329 with ⟨rfl, hp27⟩ | ⟨rfl, hp27⟩
  · refine own_iN 33 X329 hx (hb hby d20_30) rfl ((if0 _ _).trans (feq (by decide : ¬ ((1 : Int32) = (0 : Int32)))).1) rfl ?_
    refine own_rl 44 #[.val (.ref tt), .val (.int lv), .val (.int q), .val (.long (own_start lv q)), .second, .val .null, .val (.ref na), .val (.ref na), .unset] [(.long (own_start lv q)), (.ref na)] X329 hx hby e20_33_6 rfl rfl ?_
    refine own_cR X329 hx hZ hown (wd101 hw) (wd102 hw) (wd103 hw) (wd40 hw) (by decide) (wd104 hw) (wd41 hw) (rm21 l Z a0 hw [] na (own_start lv q) l1 .null .null h0 n0 (by omega) P2 P3 P5 P6 rfl rfl) e329 P2 [(.long (own_start lv q))] [] 47 0 (hb hby d20_44) rfl (by rw [hml]; rfl) rfl rfl (lenOf pd_8 rfl) rfl (by decide) fun v330 T330 Lc330 X330 hQ330 => ?_
    obtain ⟨hvc330, N330q, e330⟩ := hQ330
    have N330 := Fr.app N329 N330q
    rcases hvc330 with ⟨hp44, rfl⟩ | ⟨hp44, rfl⟩
    · refine own_rl 49 #[.val (.ref tt), .val (.int lv), .val (.int q), .val (.long (own_start lv q)), .second, .val .null, .val (.ref na), .val .null, .unset] [] X330 hx hby e20_47_1 rfl rfl ?_
      refine own_go 18 X330 hx (hb hby d20_49) (by decide) (by decide) ?_
      refine own_ru 20 [.null] X330 hx hby e20_18_1 rfl rfl ?_
      refine own_st 52 [] (fun t k => XS.ifnullYes X330.here hx rfl (pc0 := 20) (pc' := 52) rfl (hb hby d20_20) rfl (by decide) (by decide) k) ?_
      refine own_ru 54 [.null] X330 hx hby e20_52_1 rfl rfl ?_
      refine own_st 75 [] (fun t k => XS.ifnullYes X330.here hx rfl (pc0 := 54) (pc' := 75) rfl (hb hby d20_54) rfl (by decide) (by decide) k) ?_
      have hq331 : Q20l Z tt lv q l1 s1 na va h0 n0 none h0 _ := ⟨rfl, N330, (by omega), Or.inl ⟨own_nw hp27, ⟨na, va, P0, P1, P2, P3, P4, P5, P6, P7, by omega, by omega, by omega⟩⟩⟩
      exact own_retV X330 hx hlk hrt (hb hby d20_75) e330 hq331 (by decide) (by decide)
    · refine own_rl 49 #[.val (.ref tt), .val (.int lv), .val (.int q), .val (.long (own_start lv q)), .second, .val .null, .val (.ref na), .val .null, .unset] [] X330 hx hby e20_47_1 rfl rfl ?_
      refine own_go 18 X330 hx (hb hby d20_49) (by decide) (by decide) ?_
      refine own_ru 20 [.null] X330 hx hby e20_18_1 rfl rfl ?_
      refine own_st 52 [] (fun t k => XS.ifnullYes X330.here hx rfl (pc0 := 20) (pc' := 52) rfl (hb hby d20_20) rfl (by decide) (by decide) k) ?_
      refine own_ru 54 [.null] X330 hx hby e20_52_1 rfl rfl ?_
      refine own_st 75 [] (fun t k => XS.ifnullYes X330.here hx rfl (pc0 := 54) (pc' := 75) rfl (hb hby d20_54) rfl (by decide) (by decide) k) ?_
      have hq332 : Q20l Z tt lv q l1 s1 na va h0 n0 none h0 _ := ⟨rfl, N330, (by omega), Or.inl ⟨own_nw hp27, ⟨na, va, P0, P1, P2, P3, P4, P5, P6, P7, by omega, by omega, by omega⟩⟩⟩
      exact own_retV X330 hx hlk hrt (hb hby d20_75) e330 hq332 (by decide) (by decide)
  · refine own_iY 52 X329 hx (hb hby d20_30) rfl ((if0 _ _).trans (teq (by decide : ((0 : Int32) = (0 : Int32)))).1) (by decide) (by decide) ?_
    refine own_ru 54 [(.ref na)] X329 hx hby e20_52_1 rfl rfl ?_
    refine own_st 57 [] (fun t k => XS.ifnullNo X329.here hx rfl (hb hby d20_54) rfl k) ?_
    refine own_ru 61 [(.long (own_start lv q)), (.int lv), (.ref na)] X329 hx hby e20_57_3 rfl rfl ?_
    refine own_cR X329 hx hZ hown (wd68 hw) (wd69 hw) (wd70 hw) (wd40 hw) (by decide) (wd71 hw) (wd41 hw) (rm14 l Z a0 hw [] na lv (own_start lv q) l1 s1 h0 n0 (by omega) P3 P4) e329 P2 [(.int lv), (.long (own_start lv q))] [] 64 0 (hb hby d20_61) rfl (by rw [hml]; rfl) rfl rfl (lenOf pd_7 rfl) rfl (by decide) fun v333 T333 Lc333 X333 hQ333 => ?_
    obtain ⟨hvc333, N333q, e333⟩ := hQ333
    have N333 := Fr.app N329 N333q
    rcases hvc333 with ⟨rfl, hp61⟩ | ⟨rfl, hp61⟩
    · refine own_iN 67 X333 hx (hb hby d20_64) rfl ((if0 _ _).trans (feq (by decide : ¬ ((1 : Int32) = (0 : Int32)))).1) rfl ?_
      refine own_ru 69 [(.ref na)] X333 hx hby e20_67_1 rfl rfl ?_
      refine own_gR X333 hx hZ hown (wd105 hw) Via.refl e333 P7 72 rfl (hb hby d20_69) rfl fun T334 X334 e334 => ?_
      refine own_st 76 [] (fun t k => XS.ifnonnullYes X334.here hx rfl (pc0 := 72) (pc' := 76) rfl (hb hby d20_72) rfl (by decide) (by decide) k) ?_
      refine own_ru 79 [.null, (.ref na)] X334 hx hby e20_76_2 rfl rfl ?_
      refine own_pR X334 hx hZ hown (wd105 hw) e334 P7 P2 (wd51 hw) (wd40 hw) (ty := (.object "java/lang/Object")) (by decide) rfl rfl 82 rfl (hb hby d20_79) rfl fun T335 h335 X335 e335 W335 => ?_
      have F335 := Fld.same W335 P7
      have z335 := W335.size
      have N335 := Fr.snoc X335 N333 (by omega)
      refine own_ru 84 [(.ref na)] X335 hx hby e20_82_1 rfl rfl ?_
      have f336 := (Fld.other W335 P5 (Or.inr (slot_ne (Or.inl (wd95 hw)) (Or.inl (wd51 hw)) (by decide) (t := (.object "com/example/mullion/mullion/service/DyadicTrie$Node")) (t' := (.object "java/lang/Object")) (by decide) (by decide))))
      refine own_gR X335 hx hZ hown (wd106 hw) Via.refl e335 f336 87 rfl (hb hby d20_84) rfl fun T337 X337 e337 => ?_
      refine own_st 99 [] (fun t k => XS.ifnullYes X337.here hx rfl (pc0 := 87) (pc' := 99) rfl (hb hby d20_87) rfl (by decide) (by decide) k) ?_
      refine own_ru 101 [(.ref na)] X337 hx hby e20_99_1 rfl rfl ?_
      have f338 := (Fld.other W335 P6 (Or.inr (slot_ne (Or.inl (wd93 hw)) (Or.inl (wd51 hw)) (by decide) (t := (.object "com/example/mullion/mullion/service/DyadicTrie$Node")) (t' := (.object "java/lang/Object")) (by decide) (by decide))))
      have f340 := (Exa.wr W335 P2)
      refine own_cR X337 hx hZ hown (wd107 hw) (wd108 hw) (wd109 hw) (wd40 hw) (by decide) (wd110 hw) (wd41 hw) (rm22h l Z a0 hw [] na .null h335 n0 (by omega) f336 f338 rfl) e337 f340 [] [] 104 0 (hb hby d20_101) rfl (by rw [hml]; rfl) rfl rfl (lenOf pd_11 rfl) rfl (by decide) fun v339 T339 Lc339 X339 hQ339 => ?_
      obtain ⟨rfl, N339q, e339⟩ := hQ339
      have N339 := Fr.app N335 N339q
      refine own_rl 112 #[.val (.ref tt), .val (.int lv), .val (.int q), .val (.long (own_start lv q)), .second, .val .null, .val .null, .val (.ref na), .val .null] [.null, (.long (own_start lv q)), .null, (.ref tt)] X339 hx hby e20_104_5 rfl rfl ?_
      have f341 := (Exa.wr W335 P0)
      have f342 := (Fld.other W335 P1 (Or.inl (own_ne (by omega))))
      refine own_cG X339 hx hZ hown (wd52 hw) (wd53 hw) (own_selPriv (mvT hZ (wd1 hw)) (Cond.privateMethod_at (mvP hZ (wd54 hw) (args := #[]))) (mvT hZ (wd53 hw)) (by decide)) (wd54 hw) (by decide) (wd55 hw) (wd2 hw) (rm10n l Z a0 hw [] tt (own_start lv q) (.null) (.ref na) h335 n0 (by omega) f341 f342 (by omega) rfl) e339 f341 [.null, (.long (own_start lv q)), .null] [] 115 0 (hb hby d20_112) rfl (by rw [hml]; rfl) rfl rfl (lenOf pd_6 rfl) rfl (by decide) fun v343 T343 Lc343 X343 hQ343 => ?_
      obtain ⟨rfl, N343q, K343, G343_0, G343_1⟩ := hQ343
      have N343 := Fr.app N339 N343q
      have z343 := K343.1
      have lt343_0 : @LT.lt Nat _ tt (Array.size T343.heap) := G343_0.lt
      refine own_ru 117 [.null] X343 hx hby e20_115_1 rfl rfl ?_
      refine own_st 120 [] (fun t k => XS.ifnonnullNo X343.here hx rfl (hb hby d20_117) rfl k) ?_
      refine own_ru 122 [.null] X343 hx hby e20_120_1 rfl rfl ?_
      refine own_st 149 [] (fun t k => XS.ifnullYes X343.here hx rfl (pc0 := 122) (pc' := 149) rfl (hb hby d20_122) rfl (by decide) (by decide) k) ?_
      have hq344 : Q20l Z tt lv q l1 s1 na va h0 n0 none T343.heap _ := ⟨rfl, N343, (by omega), Or.inr ⟨hp61, G343_0, G343_1, by omega⟩⟩
      exact own_retV X343 hx hlk hrt (hb hby d20_149) rfl hq344 (by decide) (by decide)
    · refine own_iY 75 X333 hx (hb hby d20_64) rfl ((if0 _ _).trans (teq (by decide : ((0 : Int32) = (0 : Int32)))).1) (by decide) (by decide) ?_
      have hq345 : Q20l Z tt lv q l1 s1 na va h0 n0 none h0 _ := ⟨rfl, N333, (by omega), Or.inl ⟨hp61, ⟨na, va, P0, P1, P2, P3, P4, P5, P6, P7, by omega, by omega, by omega⟩⟩⟩
      exact own_retV X333 hx hlk hrt (hb hby d20_75) e333 hq345 (by decide) (by decide)
theorem d20_92 : decode prog_41_method_7_code 92 = .ok (.getfield 68, 3) := by decide +kernel
theorem d20_95 : decode prog_41_method_7_code 95 = .ok (.ifnull 4, 3) := by decide +kernel
theorem d20_127 : decode prog_41_method_7_code 127 = .ok (.getfield 42, 3) := by decide +kernel
theorem d20_130 : decode prog_41_method_7_code 130 = .ok (.ifnonnull 19, 3) := by decide +kernel
theorem e20_125_1 : own_dec prog_41_method_7_code 125 [(.aload 6, 2)] = true := by decide +kernel
theorem e20_90_1 : own_dec prog_41_method_7_code 90 [(.aload 7, 2)] = true := by decide +kernel
def Q20nl (Z : State) (tt : Addr) (lv : Int32) (q : Int32) (l1 : Int32) (s1 : Int64) (l2 : Int32) (s2 : Int64) (np : Addr) (nc : Addr) (vp : Addr) (vc : Addr) (h0 : Heap) (n0 : Nat) (v : Option Value) (h : Heap) (L : List Loc) : Prop := v = none ∧ Fr n0 L ∧ h0.size ≤ h.size ∧ own_R2 Z h n0 tt lv (own_start lv q) l1 s1 l2 s2
set_option maxRecDepth 65536 in
set_option maxHeartbeats 40000000 in
theorem rm20nl (l : Launch) (Z : State) (a0 : Array Value) (hw : OW a0 Z) (ws : List Jvm.Cond) (tt : Addr) (lv : Int32) (q : Int32) (l1 : Int32) (s1 : Int64) (l2 : Int32) (s2 : Int64) (np : Addr) (nc : Addr) (vp : Addr) (vc : Addr) (h0 : Heap) (n0 : Nat) (Z0 : n0 ≤ h0.size) (P0 : ex7 Z h0 tt) (P1 : fl0 Z h0 tt (.ref np)) (P2 : ex1 Z h0 np) (P3 : fl2 Z h0 np (.int l1)) (P4 : fl3 Z h0 np (.long s1)) (P5 : fl5 Z h0 np (.ref nc)) (P6 : fl6 Z h0 np .null) (P7 : fl4 Z h0 np (.ref vp)) (P8 : ex1 Z h0 nc) (P9 : fl2 Z h0 nc (.int l2)) (P10 : fl3 Z h0 nc (.long s2)) (P11 : fl5 Z h0 nc .null) (P12 : fl6 Z h0 nc .null) (P13 : fl4 Z h0 nc (.ref vc)) (g_tt : n0 ≤ tt) (g_np : n0 ≤ np) (g_nc : n0 ≤ nc) (hw0 : own_wid l1 s1 l2 s2) (hw1 : own_low l1 s2) (ho0 : @Ne Nat tt np) (ho1 : @Ne Nat tt nc) (ho2 : @Ne Nat np nc) :
    own_Met l my20 prog_41_method_7_code 9 none ws (own_rm 4 0 0 80) #[(.ref tt), (.int lv), (.int q)] Z h0 (Q20nl Z tt lv q l1 s1 l2 s2 np nc vp vc h0 n0) 0 0 := by
  refine own_body (plainFor_of_name pn_1) (fun m => by first | (simp [entryFrame, mkF, argsToLocals, Value.category]; done) | rfl) (Ls := #[.val (.ref tt), .val (.int lv), .val (.int q), .unset, .unset, .unset, .unset, .unset, .unset]) fun p e s m below meth c s₁ X0 hx hby hml hZ e0 hown hnm hlk hrt => ?_
  have N0 := Fr.nil n0
  have lt_P0 : @LT.lt Nat _ tt (Array.size h0) := P0.lt
  have lt_P2 : @LT.lt Nat _ np (Array.size h0) := P2.lt
  have lt_P8 : @LT.lt Nat _ nc (Array.size h0) := P8.lt
  refine own_ru 2 [(.int q), (.int lv)] X0 hx hby e20_0_2 rfl rfl ?_
  refine own_cS X0 hx hZ hown (wd28 hw) (wd29 hw) (by decide) (wd30 hw) (wd2 hw) (rm6 l Z a0 hw [] lv q h0 n0 (by omega) ) e0  [(.int lv), (.int q)] [] 5 0 (hb hby d20_2) rfl (by rw [hml]; rfl) rfl rfl (lenOf pd_1 rfl) rfl (by decide) fun v346 T346 Lc346 X346 hQ346 => ?_
  obtain ⟨rfl, N346q, e346⟩ := hQ346
  have N346 := Fr.app N0 N346q
  refine own_rl 13 #[.val (.ref tt), .val (.int lv), .val (.int q), .val (.long (own_start lv q)), .second, .val .null, .val .null, .unset, .unset] [(.ref tt)] X346 hx hby e20_5_6 rfl rfl ?_
  refine own_gF X346 hx hZ hown (host := "") (Or.inl (wd14 hw)) Via.refl e346 P1 16 rfl (hb hby d20_13) rfl fun T347 X347 e347 => ?_
  refine own_rl 20 #[.val (.ref tt), .val (.int lv), .val (.int q), .val (.long (own_start lv q)), .second, .val .null, .val .null, .val (.ref np), .unset] [(.ref np)] X347 hx hby e20_16_2 rfl rfl ?_
  refine own_st 23 [] (fun t k => XS.ifnullNo X347.here hx rfl (hb hby d20_20) rfl k) ?_
  refine own_ru 27 [(.long (own_start lv q)), (.int lv), (.ref np)] X347 hx hby e20_23_3 rfl rfl ?_
  refine own_cR X347 hx hZ hown (wd60 hw) (wd61 hw) (wd62 hw) (wd40 hw) (by decide) (wd63 hw) (wd41 hw) (rm12 l Z a0 hw [] np lv (own_start lv q) l1 s1 h0 n0 (by omega) P2 P3 P4) e347 P2 [(.int lv), (.long (own_start lv q))] [] 30 0 (hb hby d20_27) rfl (by rw [hml]; rfl) rfl rfl (lenOf pd_7 rfl) rfl (by decide) fun v348 T348 Lc348 X348 hQ348 => ?_
  obtain ⟨hvc348, N348q, e348⟩ := hQ348
  have N348 := Fr.app N346 N348q
  rcases hvc348 with ⟨rfl, hp27⟩ | ⟨rfl, hp27⟩
  · refine own_iN 33 X348 hx (hb hby d20_30) rfl ((if0 _ _).trans (feq (by decide : ¬ ((1 : Int32) = (0 : Int32)))).1) rfl ?_
    refine own_rl 44 #[.val (.ref tt), .val (.int lv), .val (.int q), .val (.long (own_start lv q)), .second, .val .null, .val (.ref np), .val (.ref np), .unset] [(.long (own_start lv q)), (.ref np)] X348 hx hby e20_33_6 rfl rfl ?_
    refine own_cR X348 hx hZ hown (wd101 hw) (wd102 hw) (wd103 hw) (wd40 hw) (by decide) (wd104 hw) (wd41 hw) (rm21 l Z a0 hw [] np (own_start lv q) l1 (.ref nc) .null h0 n0 (by omega) P2 P3 P5 P6 rfl rfl) e348 P2 [(.long (own_start lv q))] [] 47 0 (hb hby d20_44) rfl (by rw [hml]; rfl) rfl rfl (lenOf pd_8 rfl) rfl (by decide) fun v349 T349 Lc349 X349 hQ349 => ?_
    obtain ⟨hvc349, N349q, e349⟩ := hQ349
    have N349 := Fr.app N348 N349q
    rcases hvc349 with ⟨hp44, rfl⟩ | ⟨hp44, rfl⟩
    · refine own_rl 49 #[.val (.ref tt), .val (.int lv), .val (.int q), .val (.long (own_start lv q)), .second, .val .null, .val (.ref np), .val (.ref nc), .unset] [] X349 hx hby e20_47_1 rfl rfl ?_
      refine own_go 18 X349 hx (hb hby d20_49) (by decide) (by decide) ?_
      refine own_ru 20 [(.ref nc)] X349 hx hby e20_18_1 rfl rfl ?_
      refine own_st 23 [] (fun t k => XS.ifnullNo X349.here hx rfl (hb hby d20_20) rfl k) ?_
      refine own_ru 27 [(.long (own_start lv q)), (.int lv), (.ref nc)] X349 hx hby e20_23_3 rfl rfl ?_
      refine own_cR X349 hx hZ hown (wd60 hw) (wd61 hw) (wd62 hw) (wd40 hw) (by decide) (wd63 hw) (wd41 hw) (rm12 l Z a0 hw [] nc lv (own_start lv q) l2 s2 h0 n0 (by omega) P8 P9 P10) e349 P8 [(.int lv), (.long (own_start lv q))] [] 30 0 (hb hby d20_27) rfl (by rw [hml]; rfl) rfl rfl (lenOf pd_7 rfl) rfl (by decide) fun v350 T350 Lc350 X350 hQ350 => ?_
      obtain ⟨hvc350, N350q, e350⟩ := hQ350
      have N350 := Fr.app N349 N350q
      rcases hvc350 with ⟨rfl, hp27b⟩ | ⟨rfl, hp27b⟩
      · refine own_iN 33 X350 hx (hb hby d20_30) rfl ((if0 _ _).trans (feq (by decide : ¬ ((1 : Int32) = (0 : Int32)))).1) rfl ?_
        refine own_rl 44 #[.val (.ref tt), .val (.int lv), .val (.int q), .val (.long (own_start lv q)), .second, .val (.ref np), .val (.ref nc), .val (.ref nc), .unset] [(.long (own_start lv q)), (.ref nc)] X350 hx hby e20_33_6 rfl rfl ?_
        refine own_cR X350 hx hZ hown (wd101 hw) (wd102 hw) (wd103 hw) (wd40 hw) (by decide) (wd104 hw) (wd41 hw) (rm21 l Z a0 hw [] nc (own_start lv q) l2 .null .null h0 n0 (by omega) P8 P9 P11 P12 rfl rfl) e350 P8 [(.long (own_start lv q))] [] 47 0 (hb hby d20_44) rfl (by rw [hml]; rfl) rfl rfl (lenOf pd_8 rfl) rfl (by decide) fun v351 T351 Lc351 X351 hQ351 => ?_
        obtain ⟨hvc351, N351q, e351⟩ := hQ351
        have N351 := Fr.app N350 N351q
        rcases hvc351 with ⟨hp44b, rfl⟩ | ⟨hp44b, rfl⟩
        · refine own_rl 49 #[.val (.ref tt), .val (.int lv), .val (.int q), .val (.long (own_start lv q)), .second, .val (.ref np), .val (.ref nc), .val .null, .unset] [] X351 hx hby e20_47_1 rfl rfl ?_
          refine own_go 18 X351 hx (hb hby d20_49) (by decide) (by decide) ?_
          refine own_ru 20 [.null] X351 hx hby e20_18_1 rfl rfl ?_
          refine own_st 52 [] (fun t k => XS.ifnullYes X351.here hx rfl (pc0 := 20) (pc' := 52) rfl (hb hby d20_20) rfl (by decide) (by decide) k) ?_
          refine own_ru 54 [.null] X351 hx hby e20_52_1 rfl rfl ?_
          refine own_st 75 [] (fun t k => XS.ifnullYes X351.here hx rfl (pc0 := 54) (pc' := 75) rfl (hb hby d20_54) rfl (by decide) (by decide) k) ?_
          have hq352 : Q20nl Z tt lv q l1 s1 l2 s2 np nc vp vc h0 n0 none h0 _ := ⟨rfl, N351, (by omega), Or.inl ⟨⟨own_nw hp27, own_nw hp27b⟩, (Or.inl ⟨np, nc, vp, vc, P0, P1, P2, P3, P4, P5, P6, P7, P8, P9, P10, P11, P12, P13, hw0, hw1, by omega, by omega, by omega, by omega, by omega, by omega⟩)⟩⟩
          exact own_retV X351 hx hlk hrt (hb hby d20_75) e351 hq352 (by decide) (by decide)
        · refine own_rl 49 #[.val (.ref tt), .val (.int lv), .val (.int q), .val (.long (own_start lv q)), .second, .val (.ref np), .val (.ref nc), .val .null, .unset] [] X351 hx hby e20_47_1 rfl rfl ?_
          refine own_go 18 X351 hx (hb hby d20_49) (by decide) (by decide) ?_
          refine own_ru 20 [.null] X351 hx hby e20_18_1 rfl rfl ?_
          refine own_st 52 [] (fun t k => XS.ifnullYes X351.here hx rfl (pc0 := 20) (pc' := 52) rfl (hb hby d20_20) rfl (by decide) (by decide) k) ?_
          refine own_ru 54 [.null] X351 hx hby e20_52_1 rfl rfl ?_
          refine own_st 75 [] (fun t k => XS.ifnullYes X351.here hx rfl (pc0 := 54) (pc' := 75) rfl (hb hby d20_54) rfl (by decide) (by decide) k) ?_
          have hq353 : Q20nl Z tt lv q l1 s1 l2 s2 np nc vp vc h0 n0 none h0 _ := ⟨rfl, N351, (by omega), Or.inl ⟨⟨own_nw hp27, own_nw hp27b⟩, (Or.inl ⟨np, nc, vp, vc, P0, P1, P2, P3, P4, P5, P6, P7, P8, P9, P10, P11, P12, P13, hw0, hw1, by omega, by omega, by omega, by omega, by omega, by omega⟩)⟩⟩
          exact own_retV X351 hx hlk hrt (hb hby d20_75) e351 hq353 (by decide) (by decide)
      · refine own_iY 52 X350 hx (hb hby d20_30) rfl ((if0 _ _).trans (teq (by decide : ((0 : Int32) = (0 : Int32)))).1) (by decide) (by decide) ?_
        refine own_ru 54 [(.ref nc)] X350 hx hby e20_52_1 rfl rfl ?_
        refine own_st 57 [] (fun t k => XS.ifnullNo X350.here hx rfl (hb hby d20_54) rfl k) ?_
        refine own_ru 61 [(.long (own_start lv q)), (.int lv), (.ref nc)] X350 hx hby e20_57_3 rfl rfl ?_
        refine own_cR X350 hx hZ hown (wd68 hw) (wd69 hw) (wd70 hw) (wd40 hw) (by decide) (wd71 hw) (wd41 hw) (rm14 l Z a0 hw [] nc lv (own_start lv q) l2 s2 h0 n0 (by omega) P9 P10) e350 P8 [(.int lv), (.long (own_start lv q))] [] 64 0 (hb hby d20_61) rfl (by rw [hml]; rfl) rfl rfl (lenOf pd_7 rfl) rfl (by decide) fun v354 T354 Lc354 X354 hQ354 => ?_
        obtain ⟨hvc354, N354q, e354⟩ := hQ354
        have N354 := Fr.app N350 N354q
        rcases hvc354 with ⟨rfl, hp61⟩ | ⟨rfl, hp61⟩
        · refine own_iN 67 X354 hx (hb hby d20_64) rfl ((if0 _ _).trans (feq (by decide : ¬ ((1 : Int32) = (0 : Int32)))).1) rfl ?_
          refine own_ru 69 [(.ref nc)] X354 hx hby e20_67_1 rfl rfl ?_
          refine own_gR X354 hx hZ hown (wd105 hw) Via.refl e354 P13 72 rfl (hb hby d20_69) rfl fun T355 X355 e355 => ?_
          refine own_st 76 [] (fun t k => XS.ifnonnullYes X355.here hx rfl (pc0 := 72) (pc' := 76) rfl (hb hby d20_72) rfl (by decide) (by decide) k) ?_
          refine own_ru 79 [.null, (.ref nc)] X355 hx hby e20_76_2 rfl rfl ?_
          refine own_pR X355 hx hZ hown (wd105 hw) e355 P13 P8 (wd51 hw) (wd40 hw) (ty := (.object "java/lang/Object")) (by decide) rfl rfl 82 rfl (hb hby d20_79) rfl fun T356 h356 X356 e356 W356 => ?_
          have F356 := Fld.same W356 P13
          have z356 := W356.size
          have N356 := Fr.snoc X356 N354 (by omega)
          refine own_ru 84 [(.ref nc)] X356 hx hby e20_82_1 rfl rfl ?_
          have f357 := (Fld.other W356 P11 (Or.inr (slot_ne (Or.inl (wd95 hw)) (Or.inl (wd51 hw)) (by decide) (t := (.object "com/example/mullion/mullion/service/DyadicTrie$Node")) (t' := (.object "java/lang/Object")) (by decide) (by decide))))
          refine own_gR X356 hx hZ hown (wd106 hw) Via.refl e356 f357 87 rfl (hb hby d20_84) rfl fun T358 X358 e358 => ?_
          refine own_st 99 [] (fun t k => XS.ifnullYes X358.here hx rfl (pc0 := 87) (pc' := 99) rfl (hb hby d20_87) rfl (by decide) (by decide) k) ?_
          refine own_ru 101 [(.ref nc)] X358 hx hby e20_99_1 rfl rfl ?_
          have f359 := (Fld.other W356 P12 (Or.inr (slot_ne (Or.inl (wd93 hw)) (Or.inl (wd51 hw)) (by decide) (t := (.object "com/example/mullion/mullion/service/DyadicTrie$Node")) (t' := (.object "java/lang/Object")) (by decide) (by decide))))
          have f361 := (Exa.wr W356 P8)
          refine own_cR X358 hx hZ hown (wd107 hw) (wd108 hw) (wd109 hw) (wd40 hw) (by decide) (wd110 hw) (wd41 hw) (rm22h l Z a0 hw [] nc .null h356 n0 (by omega) f357 f359 rfl) e358 f361 [] [] 104 0 (hb hby d20_101) rfl (by rw [hml]; rfl) rfl rfl (lenOf pd_11 rfl) rfl (by decide) fun v360 T360 Lc360 X360 hQ360 => ?_
          obtain ⟨rfl, N360q, e360⟩ := hQ360
          have N360 := Fr.app N356 N360q
          refine own_rl 112 #[.val (.ref tt), .val (.int lv), .val (.int q), .val (.long (own_start lv q)), .second, .val .null, .val (.ref np), .val (.ref nc), .val .null] [.null, (.long (own_start lv q)), (.ref np), (.ref tt)] X360 hx hby e20_104_5 rfl rfl ?_
          have f362 := (Exa.wr W356 P2)
          have f363 := (Fld.other W356 P3 (Or.inl (own_ne (by omega))))
          have f364 := (Fld.other W356 P4 (Or.inl (own_ne (by omega))))
          have f365 := (Fld.other W356 P7 (Or.inl (own_ne (by omega))))
          have f366 := (Fld.other W356 P5 (Or.inl (own_ne (by omega))))
          have f367 := (Fld.other W356 P6 (Or.inl (own_ne (by omega))))
          have f369 := (Exa.wr W356 P0)
          refine own_cG X360 hx hZ hown (wd52 hw) (wd53 hw) (own_selPriv (mvT hZ (wd1 hw)) (Cond.privateMethod_at (mvP hZ (wd54 hw) (args := #[]))) (mvT hZ (wd53 hw)) (by decide)) (wd54 hw) (by decide) (wd55 hw) (wd2 hw) (rm10p l Z a0 hw [] tt np (own_start lv q) (.null) l1 s1 (.ref vp) (.ref nc) .null h356 n0 (by omega) f362 f363 f364 f365 f366 f367 (by omega) rfl) e360 f369 [(.ref np), (.long (own_start lv q)), .null] [] 115 0 (hb hby d20_112) rfl (by rw [hml]; rfl) rfl rfl (lenOf pd_6 rfl) rfl (by decide) fun v368 T368 Lc368 X368 hQ368 => ?_
          obtain ⟨vl_368, vh_368, rfl, N368q, K368, G368_0, G368_1, G368_2, G368_3, G368_4, G368_5, hvd368⟩ := hQ368
          have N368 := Fr.app N360 N368q
          have z368 := K368.1
          have lt368_0 : @LT.lt Nat _ np (Array.size T368.heap) := G368_0.lt
          rcases hvd368 with ⟨hp112, rfl, rfl⟩ | ⟨hp112, rfl, rfl⟩
          · refine own_ru 117 [.null] X368 hx hby e20_115_1 rfl rfl ?_
            refine own_st 120 [] (fun t k => XS.ifnonnullNo X368.here hx rfl (hb hby d20_117) rfl k) ?_
            as_aux_lemma =>
              refine own_ru 122 [(.ref np)] X368 hx hby e20_120_1 rfl rfl ?_
              refine own_st 125 [] (fun t k => XS.ifnullNo X368.here hx rfl (hb hby d20_122) rfl k) ?_
              refine own_ru 127 [(.ref np)] X368 hx hby e20_125_1 rfl rfl ?_
              refine own_gR X368 hx hZ hown (wd105 hw) Via.refl rfl G368_3 130 rfl (hb hby d20_127) rfl fun T370 X370 e370 => ?_
              refine own_st 149 [] (fun t k => XS.ifnonnullYes X370.here hx rfl (pc0 := 130) (pc' := 149) rfl (hb hby d20_130) rfl (by decide) (by decide) k) ?_
              have f372 := (Exa.keep f369 K368)
              have f373 := ((Fld.other W356 P1 (Or.inl (own_ne (by omega)))).keep K368 (own_nS (by omega) nin0))
              have hq371 : Q20nl Z tt lv q l1 s1 l2 s2 np nc vp vc h0 n0 none T368.heap _ := ⟨rfl, N368, (by omega), Or.inr (Or.inr ⟨⟨own_nw hp27, hp61⟩, ⟨np, vp, f372, f373, G368_0, G368_1, G368_2, G368_4, G368_5, G368_3, by omega, by omega, by omega⟩⟩)⟩
              exact own_retV X370 hx hlk hrt (hb hby d20_149) e370 hq371 (by decide) (by decide)
          · exact absurd hp44 hp112
        · refine own_iY 75 X354 hx (hb hby d20_64) rfl ((if0 _ _).trans (teq (by decide : ((0 : Int32) = (0 : Int32)))).1) (by decide) (by decide) ?_
          have hq374 : Q20nl Z tt lv q l1 s1 l2 s2 np nc vp vc h0 n0 none h0 _ := ⟨rfl, N354, (by omega), Or.inl ⟨⟨own_nw hp27, hp61⟩, (Or.inl ⟨np, nc, vp, vc, P0, P1, P2, P3, P4, P5, P6, P7, P8, P9, P10, P11, P12, P13, hw0, hw1, by omega, by omega, by omega, by omega, by omega, by omega⟩)⟩⟩
          exact own_retV X354 hx hlk hrt (hb hby d20_75) e354 hq374 (by decide) (by decide)
    · refine own_rl 49 #[.val (.ref tt), .val (.int lv), .val (.int q), .val (.long (own_start lv q)), .second, .val .null, .val (.ref np), .val .null, .unset] [] X349 hx hby e20_47_1 rfl rfl ?_
      refine own_go 18 X349 hx (hb hby d20_49) (by decide) (by decide) ?_
      refine own_ru 20 [.null] X349 hx hby e20_18_1 rfl rfl ?_
      refine own_st 52 [] (fun t k => XS.ifnullYes X349.here hx rfl (pc0 := 20) (pc' := 52) rfl (hb hby d20_20) rfl (by decide) (by decide) k) ?_
      refine own_ru 54 [.null] X349 hx hby e20_52_1 rfl rfl ?_
      refine own_st 75 [] (fun t k => XS.ifnullYes X349.here hx rfl (pc0 := 54) (pc' := 75) rfl (hb hby d20_54) rfl (by decide) (by decide) k) ?_
      have hq375 : Q20nl Z tt lv q l1 s1 l2 s2 np nc vp vc h0 n0 none h0 _ := ⟨rfl, N349, (by omega), Or.inl ⟨⟨own_nw hp27, own_ns1 hw1 hp44⟩, (Or.inl ⟨np, nc, vp, vc, P0, P1, P2, P3, P4, P5, P6, P7, P8, P9, P10, P11, P12, P13, hw0, hw1, by omega, by omega, by omega, by omega, by omega, by omega⟩)⟩⟩
      exact own_retV X349 hx hlk hrt (hb hby d20_75) e349 hq375 (by decide) (by decide)
  · refine own_iY 52 X348 hx (hb hby d20_30) rfl ((if0 _ _).trans (teq (by decide : ((0 : Int32) = (0 : Int32)))).1) (by decide) (by decide) ?_
    refine own_ru 54 [(.ref np)] X348 hx hby e20_52_1 rfl rfl ?_
    refine own_st 57 [] (fun t k => XS.ifnullNo X348.here hx rfl (hb hby d20_54) rfl k) ?_
    refine own_ru 61 [(.long (own_start lv q)), (.int lv), (.ref np)] X348 hx hby e20_57_3 rfl rfl ?_
    refine own_cR X348 hx hZ hown (wd68 hw) (wd69 hw) (wd70 hw) (wd40 hw) (by decide) (wd71 hw) (wd41 hw) (rm14 l Z a0 hw [] np lv (own_start lv q) l1 s1 h0 n0 (by omega) P3 P4) e348 P2 [(.int lv), (.long (own_start lv q))] [] 64 0 (hb hby d20_61) rfl (by rw [hml]; rfl) rfl rfl (lenOf pd_7 rfl) rfl (by decide) fun v376 T376 Lc376 X376 hQ376 => ?_
    obtain ⟨hvc376, N376q, e376⟩ := hQ376
    have N376 := Fr.app N348 N376q
    rcases hvc376 with ⟨rfl, hp61⟩ | ⟨rfl, hp61⟩
    · refine own_iN 67 X376 hx (hb hby d20_64) rfl ((if0 _ _).trans (feq (by decide : ¬ ((1 : Int32) = (0 : Int32)))).1) rfl ?_
      refine own_ru 69 [(.ref np)] X376 hx hby e20_67_1 rfl rfl ?_
      refine own_gR X376 hx hZ hown (wd105 hw) Via.refl e376 P7 72 rfl (hb hby d20_69) rfl fun T377 X377 e377 => ?_
      refine own_st 76 [] (fun t k => XS.ifnonnullYes X377.here hx rfl (pc0 := 72) (pc' := 76) rfl (hb hby d20_72) rfl (by decide) (by decide) k) ?_
      refine own_ru 79 [.null, (.ref np)] X377 hx hby e20_76_2 rfl rfl ?_
      refine own_pR X377 hx hZ hown (wd105 hw) e377 P7 P2 (wd51 hw) (wd40 hw) (ty := (.object "java/lang/Object")) (by decide) rfl rfl 82 rfl (hb hby d20_79) rfl fun T378 h378 X378 e378 W378 => ?_
      have F378 := Fld.same W378 P7
      have z378 := W378.size
      have N378 := Fr.snoc X378 N376 (by omega)
      refine own_ru 84 [(.ref np)] X378 hx hby e20_82_1 rfl rfl ?_
      have f379 := (Fld.other W378 P5 (Or.inr (slot_ne (Or.inl (wd95 hw)) (Or.inl (wd51 hw)) (by decide) (t := (.object "com/example/mullion/mullion/service/DyadicTrie$Node")) (t' := (.object "java/lang/Object")) (by decide) (by decide))))
      refine own_gR X378 hx hZ hown (wd106 hw) Via.refl e378 f379 87 rfl (hb hby d20_84) rfl fun T380 X380 e380 => ?_
      refine own_st 90 [] (fun t k => XS.ifnullNo X380.here hx rfl (hb hby d20_87) rfl k) ?_
      refine own_ru 92 [(.ref np)] X380 hx hby e20_90_1 rfl rfl ?_
      have f381 := (Fld.other W378 P6 (Or.inr (slot_ne (Or.inl (wd93 hw)) (Or.inl (wd51 hw)) (by decide) (t := (.object "com/example/mullion/mullion/service/DyadicTrie$Node")) (t' := (.object "java/lang/Object")) (by decide) (by decide))))
      refine own_gR X380 hx hZ hown (wd112 hw) Via.refl e380 f381 95 rfl (hb hby d20_92) rfl fun T382 X382 e382 => ?_
      refine own_st 99 [] (fun t k => XS.ifnullYes X382.here hx rfl (pc0 := 95) (pc' := 99) rfl (hb hby d20_95) rfl (by decide) (by decide) k) ?_
      refine own_ru 101 [(.ref np)] X382 hx hby e20_99_1 rfl rfl ?_
      have f384 := (Exa.wr W378 P2)
      refine own_cR X382 hx hZ hown (wd107 hw) (wd108 hw) (wd109 hw) (wd40 hw) (by decide) (wd110 hw) (wd41 hw) (rm22l l Z a0 hw [] np nc h378 n0 (by omega) f379) e382 f384 [] [] 104 0 (hb hby d20_101) rfl (by rw [hml]; rfl) rfl rfl (lenOf pd_11 rfl) rfl (by decide) fun v383 T383 Lc383 X383 hQ383 => ?_
      obtain ⟨rfl, N383q, e383⟩ := hQ383
      have N383 := Fr.app N378 N383q
      refine own_rl 112 #[.val (.ref tt), .val (.int lv), .val (.int q), .val (.long (own_start lv q)), .second, .val .null, .val .null, .val (.ref np), .val (.ref nc)] [(.ref nc), (.long (own_start lv q)), .null, (.ref tt)] X383 hx hby e20_104_5 rfl rfl ?_
      have f385 := (Exa.wr W378 P0)
      have f386 := (Fld.other W378 P1 (Or.inl (own_ne (by omega))))
      refine own_cG X383 hx hZ hown (wd52 hw) (wd53 hw) (own_selPriv (mvT hZ (wd1 hw)) (Cond.privateMethod_at (mvP hZ (wd54 hw) (args := #[]))) (mvT hZ (wd53 hw)) (by decide)) (wd54 hw) (by decide) (wd55 hw) (wd2 hw) (rm10n l Z a0 hw [] tt (own_start lv q) (.ref nc) (.ref np) h378 n0 (by omega) f385 f386 (by omega) rfl) e383 f385 [.null, (.long (own_start lv q)), (.ref nc)] [] 115 0 (hb hby d20_112) rfl (by rw [hml]; rfl) rfl rfl (lenOf pd_6 rfl) rfl (by decide) fun v387 T387 Lc387 X387 hQ387 => ?_
      obtain ⟨rfl, N387q, K387, G387_0, G387_1⟩ := hQ387
      have N387 := Fr.app N383 N387q
      have z387 := K387.1
      have lt387_0 : @LT.lt Nat _ tt (Array.size T387.heap) := G387_0.lt
      refine own_ru 117 [(.ref nc)] X387 hx hby e20_115_1 rfl rfl ?_
      refine own_st 149 [] (fun t k => XS.ifnonnullYes X387.here hx rfl (pc0 := 117) (pc' := 149) rfl (hb hby d20_117) rfl (by decide) (by decide) k) ?_
      have f389 := (Exa.keep (Exa.wr W378 P8) K387)
      have f390 := ((Fld.other W378 P9 (Or.inl (own_ne (by omega)))).keep K387 (own_nS (by omega) nin0))
      have f391 := ((Fld.other W378 P10 (Or.inl (own_ne (by omega)))).keep K387 (own_nS (by omega) nin0))
      have f392 := ((Fld.other W378 P11 (Or.inl (own_ne (by omega)))).keep K387 (own_nS (by omega) nin0))
      have f393 := ((Fld.other W378 P12 (Or.inl (own_ne (by omega)))).keep K387 (own_nS (by omega) nin0))
      have f394 := ((Fld.other W378 P13 (Or.inl (own_ne (by omega)))).keep K387 (own_nS (by omega) nin0))
      have hq388 : Q20nl Z tt lv q l1 s1 l2 s2 np nc vp vc h0 n0 none T387.heap _ := ⟨rfl, N387, (by omega), Or.inr (Or.inl ⟨⟨hp61, own_na hw0 hp61⟩, ⟨nc, vc, G387_0, G387_1, f389, f390, f391, f392, f393, f394, by omega, by omega, by omega⟩⟩)⟩
      exact own_retV X387 hx hlk hrt (hb hby d20_149) rfl hq388 (by decide) (by decide)
    · refine own_iY 75 X376 hx (hb hby d20_64) rfl ((if0 _ _).trans (teq (by decide : ((0 : Int32) = (0 : Int32)))).1) (by decide) (by decide) ?_
      have hq395 : Q20nl Z tt lv q l1 s1 l2 s2 np nc vp vc h0 n0 none h0 _ := ⟨rfl, N376, (by omega), Or.inl ⟨⟨hp61, own_nc hw0 hp27⟩, (Or.inl ⟨np, nc, vp, vc, P0, P1, P2, P3, P4, P5, P6, P7, P8, P9, P10, P11, P12, P13, hw0, hw1, by omega, by omega, by omega, by omega, by omega, by omega⟩)⟩⟩
      exact own_retV X376 hx hlk hrt (hb hby d20_75) e376 hq395 (by decide) (by decide)
def Q20nh (Z : State) (tt : Addr) (lv : Int32) (q : Int32) (l1 : Int32) (s1 : Int64) (l2 : Int32) (s2 : Int64) (np : Addr) (nc : Addr) (vp : Addr) (vc : Addr) (h0 : Heap) (n0 : Nat) (v : Option Value) (h : Heap) (L : List Loc) : Prop := v = none ∧ Fr n0 L ∧ h0.size ≤ h.size ∧ own_R2 Z h n0 tt lv (own_start lv q) l1 s1 l2 s2
set_option maxRecDepth 65536 in
set_option maxHeartbeats 40000000 in
theorem rm20nh (l : Launch) (Z : State) (a0 : Array Value) (hw : OW a0 Z) (ws : List Jvm.Cond) (tt : Addr) (lv : Int32) (q : Int32) (l1 : Int32) (s1 : Int64) (l2 : Int32) (s2 : Int64) (np : Addr) (nc : Addr) (vp : Addr) (vc : Addr) (h0 : Heap) (n0 : Nat) (Z0 : n0 ≤ h0.size) (P0 : ex7 Z h0 tt) (P1 : fl0 Z h0 tt (.ref np)) (P2 : ex1 Z h0 np) (P3 : fl2 Z h0 np (.int l1)) (P4 : fl3 Z h0 np (.long s1)) (P5 : fl5 Z h0 np .null) (P6 : fl6 Z h0 np (.ref nc)) (P7 : fl4 Z h0 np (.ref vp)) (P8 : ex1 Z h0 nc) (P9 : fl2 Z h0 nc (.int l2)) (P10 : fl3 Z h0 nc (.long s2)) (P11 : fl5 Z h0 nc .null) (P12 : fl6 Z h0 nc .null) (P13 : fl4 Z h0 nc (.ref vc)) (g_tt : n0 ≤ tt) (g_np : n0 ≤ np) (g_nc : n0 ≤ nc) (hw0 : own_wid l1 s1 l2 s2) (hw1 : ¬ own_low l1 s2) (ho0 : @Ne Nat tt np) (ho1 : @Ne Nat tt nc) (ho2 : @Ne Nat np nc) :
    own_Met l my20 prog_41_method_7_code 9 none ws (own_rm 4 0 0 80) #[(.ref tt), (.int lv), (.int q)] Z h0 (Q20nh Z tt lv q l1 s1 l2 s2 np nc vp vc h0 n0) 0 0 := by
  refine own_body (plainFor_of_name pn_1) (fun m => by first | (simp [entryFrame, mkF, argsToLocals, Value.category]; done) | rfl) (Ls := #[.val (.ref tt), .val (.int lv), .val (.int q), .unset, .unset, .unset, .unset, .unset, .unset]) fun p e s m below meth c s₁ X0 hx hby hml hZ e0 hown hnm hlk hrt => ?_
  have N0 := Fr.nil n0
  have lt_P0 : @LT.lt Nat _ tt (Array.size h0) := P0.lt
  have lt_P2 : @LT.lt Nat _ np (Array.size h0) := P2.lt
  have lt_P8 : @LT.lt Nat _ nc (Array.size h0) := P8.lt
  refine own_ru 2 [(.int q), (.int lv)] X0 hx hby e20_0_2 rfl rfl ?_
  refine own_cS X0 hx hZ hown (wd28 hw) (wd29 hw) (by decide) (wd30 hw) (wd2 hw) (rm6 l Z a0 hw [] lv q h0 n0 (by omega) ) e0  [(.int lv), (.int q)] [] 5 0 (hb hby d20_2) rfl (by rw [hml]; rfl) rfl rfl (lenOf pd_1 rfl) rfl (by decide) fun v396 T396 Lc396 X396 hQ396 => ?_
  obtain ⟨rfl, N396q, e396⟩ := hQ396
  have N396 := Fr.app N0 N396q
  refine own_rl 13 #[.val (.ref tt), .val (.int lv), .val (.int q), .val (.long (own_start lv q)), .second, .val .null, .val .null, .unset, .unset] [(.ref tt)] X396 hx hby e20_5_6 rfl rfl ?_
  refine own_gF X396 hx hZ hown (host := "") (Or.inl (wd14 hw)) Via.refl e396 P1 16 rfl (hb hby d20_13) rfl fun T397 X397 e397 => ?_
  refine own_rl 20 #[.val (.ref tt), .val (.int lv), .val (.int q), .val (.long (own_start lv q)), .second, .val .null, .val .null, .val (.ref np), .unset] [(.ref np)] X397 hx hby e20_16_2 rfl rfl ?_
  refine own_st 23 [] (fun t k => XS.ifnullNo X397.here hx rfl (hb hby d20_20) rfl k) ?_
  refine own_ru 27 [(.long (own_start lv q)), (.int lv), (.ref np)] X397 hx hby e20_23_3 rfl rfl ?_
  refine own_cR X397 hx hZ hown (wd60 hw) (wd61 hw) (wd62 hw) (wd40 hw) (by decide) (wd63 hw) (wd41 hw) (rm12 l Z a0 hw [] np lv (own_start lv q) l1 s1 h0 n0 (by omega) P2 P3 P4) e397 P2 [(.int lv), (.long (own_start lv q))] [] 30 0 (hb hby d20_27) rfl (by rw [hml]; rfl) rfl rfl (lenOf pd_7 rfl) rfl (by decide) fun v398 T398 Lc398 X398 hQ398 => ?_
  obtain ⟨hvc398, N398q, e398⟩ := hQ398
  have N398 := Fr.app N396 N398q
  rcases hvc398 with ⟨rfl, hp27⟩ | ⟨rfl, hp27⟩
  · refine own_iN 33 X398 hx (hb hby d20_30) rfl ((if0 _ _).trans (feq (by decide : ¬ ((1 : Int32) = (0 : Int32)))).1) rfl ?_
    refine own_rl 44 #[.val (.ref tt), .val (.int lv), .val (.int q), .val (.long (own_start lv q)), .second, .val .null, .val (.ref np), .val (.ref np), .unset] [(.long (own_start lv q)), (.ref np)] X398 hx hby e20_33_6 rfl rfl ?_
    refine own_cR X398 hx hZ hown (wd101 hw) (wd102 hw) (wd103 hw) (wd40 hw) (by decide) (wd104 hw) (wd41 hw) (rm21 l Z a0 hw [] np (own_start lv q) l1 .null (.ref nc) h0 n0 (by omega) P2 P3 P5 P6 rfl rfl) e398 P2 [(.long (own_start lv q))] [] 47 0 (hb hby d20_44) rfl (by rw [hml]; rfl) rfl rfl (lenOf pd_8 rfl) rfl (by decide) fun v399 T399 Lc399 X399 hQ399 => ?_
    obtain ⟨hvc399, N399q, e399⟩ := hQ399
    have N399 := Fr.app N398 N399q
    rcases hvc399 with ⟨hp44, rfl⟩ | ⟨hp44, rfl⟩
    · refine own_rl 49 #[.val (.ref tt), .val (.int lv), .val (.int q), .val (.long (own_start lv q)), .second, .val .null, .val (.ref np), .val .null, .unset] [] X399 hx hby e20_47_1 rfl rfl ?_
      refine own_go 18 X399 hx (hb hby d20_49) (by decide) (by decide) ?_
      refine own_ru 20 [.null] X399 hx hby e20_18_1 rfl rfl ?_
      refine own_st 52 [] (fun t k => XS.ifnullYes X399.here hx rfl (pc0 := 20) (pc' := 52) rfl (hb hby d20_20) rfl (by decide) (by decide) k) ?_
      refine own_ru 54 [.null] X399 hx hby e20_52_1 rfl rfl ?_
      refine own_st 75 [] (fun t k => XS.ifnullYes X399.here hx rfl (pc0 := 54) (pc' := 75) rfl (hb hby d20_54) rfl (by decide) (by decide) k) ?_
      have hq400 : Q20nh Z tt lv q l1 s1 l2 s2 np nc vp vc h0 n0 none h0 _ := ⟨rfl, N399, (by omega), Or.inl ⟨⟨own_nw hp27, own_ns2 hw1 hp44⟩, (Or.inr (Or.inl ⟨np, nc, vp, vc, P0, P1, P2, P3, P4, P5, P6, P7, P8, P9, P10, P11, P12, P13, hw0, hw1, by omega, by omega, by omega, by omega, by omega, by omega⟩))⟩⟩
      exact own_retV X399 hx hlk hrt (hb hby d20_75) e399 hq400 (by decide) (by decide)
    · refine own_rl 49 #[.val (.ref tt), .val (.int lv), .val (.int q), .val (.long (own_start lv q)), .second, .val .null, .val (.ref np), .val (.ref nc), .unset] [] X399 hx hby e20_47_1 rfl rfl ?_
      refine own_go 18 X399 hx (hb hby d20_49) (by decide) (by decide) ?_
      refine own_ru 20 [(.ref nc)] X399 hx hby e20_18_1 rfl rfl ?_
      refine own_st 23 [] (fun t k => XS.ifnullNo X399.here hx rfl (hb hby d20_20) rfl k) ?_
      refine own_ru 27 [(.long (own_start lv q)), (.int lv), (.ref nc)] X399 hx hby e20_23_3 rfl rfl ?_
      refine own_cR X399 hx hZ hown (wd60 hw) (wd61 hw) (wd62 hw) (wd40 hw) (by decide) (wd63 hw) (wd41 hw) (rm12 l Z a0 hw [] nc lv (own_start lv q) l2 s2 h0 n0 (by omega) P8 P9 P10) e399 P8 [(.int lv), (.long (own_start lv q))] [] 30 0 (hb hby d20_27) rfl (by rw [hml]; rfl) rfl rfl (lenOf pd_7 rfl) rfl (by decide) fun v401 T401 Lc401 X401 hQ401 => ?_
      obtain ⟨hvc401, N401q, e401⟩ := hQ401
      have N401 := Fr.app N399 N401q
      rcases hvc401 with ⟨rfl, hp27b⟩ | ⟨rfl, hp27b⟩
      · refine own_iN 33 X401 hx (hb hby d20_30) rfl ((if0 _ _).trans (feq (by decide : ¬ ((1 : Int32) = (0 : Int32)))).1) rfl ?_
        refine own_rl 44 #[.val (.ref tt), .val (.int lv), .val (.int q), .val (.long (own_start lv q)), .second, .val (.ref np), .val (.ref nc), .val (.ref nc), .unset] [(.long (own_start lv q)), (.ref nc)] X401 hx hby e20_33_6 rfl rfl ?_
        refine own_cR X401 hx hZ hown (wd101 hw) (wd102 hw) (wd103 hw) (wd40 hw) (by decide) (wd104 hw) (wd41 hw) (rm21 l Z a0 hw [] nc (own_start lv q) l2 .null .null h0 n0 (by omega) P8 P9 P11 P12 rfl rfl) e401 P8 [(.long (own_start lv q))] [] 47 0 (hb hby d20_44) rfl (by rw [hml]; rfl) rfl rfl (lenOf pd_8 rfl) rfl (by decide) fun v402 T402 Lc402 X402 hQ402 => ?_
        obtain ⟨hvc402, N402q, e402⟩ := hQ402
        have N402 := Fr.app N401 N402q
        rcases hvc402 with ⟨hp44b, rfl⟩ | ⟨hp44b, rfl⟩
        · refine own_rl 49 #[.val (.ref tt), .val (.int lv), .val (.int q), .val (.long (own_start lv q)), .second, .val (.ref np), .val (.ref nc), .val .null, .unset] [] X402 hx hby e20_47_1 rfl rfl ?_
          refine own_go 18 X402 hx (hb hby d20_49) (by decide) (by decide) ?_
          refine own_ru 20 [.null] X402 hx hby e20_18_1 rfl rfl ?_
          refine own_st 52 [] (fun t k => XS.ifnullYes X402.here hx rfl (pc0 := 20) (pc' := 52) rfl (hb hby d20_20) rfl (by decide) (by decide) k) ?_
          refine own_ru 54 [.null] X402 hx hby e20_52_1 rfl rfl ?_
          refine own_st 75 [] (fun t k => XS.ifnullYes X402.here hx rfl (pc0 := 54) (pc' := 75) rfl (hb hby d20_54) rfl (by decide) (by decide) k) ?_
          have hq403 : Q20nh Z tt lv q l1 s1 l2 s2 np nc vp vc h0 n0 none h0 _ := ⟨rfl, N402, (by omega), Or.inl ⟨⟨own_nw hp27, own_nw hp27b⟩, (Or.inr (Or.inl ⟨np, nc, vp, vc, P0, P1, P2, P3, P4, P5, P6, P7, P8, P9, P10, P11, P12, P13, hw0, hw1, by omega, by omega, by omega, by omega, by omega, by omega⟩))⟩⟩
          exact own_retV X402 hx hlk hrt (hb hby d20_75) e402 hq403 (by decide) (by decide)
        · refine own_rl 49 #[.val (.ref tt), .val (.int lv), .val (.int q), .val (.long (own_start lv q)), .second, .val (.ref np), .val (.ref nc), .val .null, .unset] [] X402 hx hby e20_47_1 rfl rfl ?_
          refine own_go 18 X402 hx (hb hby d20_49) (by decide) (by decide) ?_
          refine own_ru 20 [.null] X402 hx hby e20_18_1 rfl rfl ?_
          refine own_st 52 [] (fun t k => XS.ifnullYes X402.here hx rfl (pc0 := 20) (pc' := 52) rfl (hb hby d20_20) rfl (by decide) (by decide) k) ?_
          refine own_ru 54 [.null] X402 hx hby e20_52_1 rfl rfl ?_
          refine own_st 75 [] (fun t k => XS.ifnullYes X402.here hx rfl (pc0 := 54) (pc' := 75) rfl (hb hby d20_54) rfl (by decide) (by decide) k) ?_
          have hq404 : Q20nh Z tt lv q l1 s1 l2 s2 np nc vp vc h0 n0 none h0 _ := ⟨rfl, N402, (by omega), Or.inl ⟨⟨own_nw hp27, own_nw hp27b⟩, (Or.inr (Or.inl ⟨np, nc, vp, vc, P0, P1, P2, P3, P4, P5, P6, P7, P8, P9, P10, P11, P12, P13, hw0, hw1, by omega, by omega, by omega, by omega, by omega, by omega⟩))⟩⟩
          exact own_retV X402 hx hlk hrt (hb hby d20_75) e402 hq404 (by decide) (by decide)
      · refine own_iY 52 X401 hx (hb hby d20_30) rfl ((if0 _ _).trans (teq (by decide : ((0 : Int32) = (0 : Int32)))).1) (by decide) (by decide) ?_
        refine own_ru 54 [(.ref nc)] X401 hx hby e20_52_1 rfl rfl ?_
        refine own_st 57 [] (fun t k => XS.ifnullNo X401.here hx rfl (hb hby d20_54) rfl k) ?_
        refine own_ru 61 [(.long (own_start lv q)), (.int lv), (.ref nc)] X401 hx hby e20_57_3 rfl rfl ?_
        refine own_cR X401 hx hZ hown (wd68 hw) (wd69 hw) (wd70 hw) (wd40 hw) (by decide) (wd71 hw) (wd41 hw) (rm14 l Z a0 hw [] nc lv (own_start lv q) l2 s2 h0 n0 (by omega) P9 P10) e401 P8 [(.int lv), (.long (own_start lv q))] [] 64 0 (hb hby d20_61) rfl (by rw [hml]; rfl) rfl rfl (lenOf pd_7 rfl) rfl (by decide) fun v405 T405 Lc405 X405 hQ405 => ?_
        obtain ⟨hvc405, N405q, e405⟩ := hQ405
        have N405 := Fr.app N401 N405q
        rcases hvc405 with ⟨rfl, hp61⟩ | ⟨rfl, hp61⟩
        · refine own_iN 67 X405 hx (hb hby d20_64) rfl ((if0 _ _).trans (feq (by decide : ¬ ((1 : Int32) = (0 : Int32)))).1) rfl ?_
          refine own_ru 69 [(.ref nc)] X405 hx hby e20_67_1 rfl rfl ?_
          refine own_gR X405 hx hZ hown (wd105 hw) Via.refl e405 P13 72 rfl (hb hby d20_69) rfl fun T406 X406 e406 => ?_
          refine own_st 76 [] (fun t k => XS.ifnonnullYes X406.here hx rfl (pc0 := 72) (pc' := 76) rfl (hb hby d20_72) rfl (by decide) (by decide) k) ?_
          refine own_ru 79 [.null, (.ref nc)] X406 hx hby e20_76_2 rfl rfl ?_
          refine own_pR X406 hx hZ hown (wd105 hw) e406 P13 P8 (wd51 hw) (wd40 hw) (ty := (.object "java/lang/Object")) (by decide) rfl rfl 82 rfl (hb hby d20_79) rfl fun T407 h407 X407 e407 W407 => ?_
          have F407 := Fld.same W407 P13
          have z407 := W407.size
          have N407 := Fr.snoc X407 N405 (by omega)
          refine own_ru 84 [(.ref nc)] X407 hx hby e20_82_1 rfl rfl ?_
          have f408 := (Fld.other W407 P11 (Or.inr (slot_ne (Or.inl (wd95 hw)) (Or.inl (wd51 hw)) (by decide) (t := (.object "com/example/mullion/mullion/service/DyadicTrie$Node")) (t' := (.object "java/lang/Object")) (by decide) (by decide))))
          refine own_gR X407 hx hZ hown (wd106 hw) Via.refl e407 f408 87 rfl (hb hby d20_84) rfl fun T409 X409 e409 => ?_
          refine own_st 99 [] (fun t k => XS.ifnullYes X409.here hx rfl (pc0 := 87) (pc' := 99) rfl (hb hby d20_87) rfl (by decide) (by decide) k) ?_
          refine own_ru 101 [(.ref nc)] X409 hx hby e20_99_1 rfl rfl ?_
          have f410 := (Fld.other W407 P12 (Or.inr (slot_ne (Or.inl (wd93 hw)) (Or.inl (wd51 hw)) (by decide) (t := (.object "com/example/mullion/mullion/service/DyadicTrie$Node")) (t' := (.object "java/lang/Object")) (by decide) (by decide))))
          have f412 := (Exa.wr W407 P8)
          refine own_cR X409 hx hZ hown (wd107 hw) (wd108 hw) (wd109 hw) (wd40 hw) (by decide) (wd110 hw) (wd41 hw) (rm22h l Z a0 hw [] nc .null h407 n0 (by omega) f408 f410 rfl) e409 f412 [] [] 104 0 (hb hby d20_101) rfl (by rw [hml]; rfl) rfl rfl (lenOf pd_11 rfl) rfl (by decide) fun v411 T411 Lc411 X411 hQ411 => ?_
          obtain ⟨rfl, N411q, e411⟩ := hQ411
          have N411 := Fr.app N407 N411q
          refine own_rl 112 #[.val (.ref tt), .val (.int lv), .val (.int q), .val (.long (own_start lv q)), .second, .val .null, .val (.ref np), .val (.ref nc), .val .null] [.null, (.long (own_start lv q)), (.ref np), (.ref tt)] X411 hx hby e20_104_5 rfl rfl ?_
          have f413 := (Exa.wr W407 P2)
          have f414 := (Fld.other W407 P3 (Or.inl (own_ne (by omega))))
          have f415 := (Fld.other W407 P4 (Or.inl (own_ne (by omega))))
          have f416 := (Fld.other W407 P7 (Or.inl (own_ne (by omega))))
          have f417 := (Fld.other W407 P5 (Or.inl (own_ne (by omega))))
          have f418 := (Fld.other W407 P6 (Or.inl (own_ne (by omega))))
          have f420 := (Exa.wr W407 P0)
          refine own_cG X411 hx hZ hown (wd52 hw) (wd53 hw) (own_selPriv (mvT hZ (wd1 hw)) (Cond.privateMethod_at (mvP hZ (wd54 hw) (args := #[]))) (mvT hZ (wd53 hw)) (by decide)) (wd54 hw) (by decide) (wd55 hw) (wd2 hw) (rm10p l Z a0 hw [] tt np (own_start lv q) (.null) l1 s1 (.ref vp) .null (.ref nc) h407 n0 (by omega) f413 f414 f415 f416 f417 f418 (by omega) rfl) e411 f420 [(.ref np), (.long (own_start lv q)), .null] [] 115 0 (hb hby d20_112) rfl (by rw [hml]; rfl) rfl rfl (lenOf pd_6 rfl) rfl (by decide) fun v419 T419 Lc419 X419 hQ419 => ?_
          obtain ⟨vl_419, vh_419, rfl, N419q, K419, G419_0, G419_1, G419_2, G419_3, G419_4, G419_5, hvd419⟩ := hQ419
          have N419 := Fr.app N411 N419q
          have z419 := K419.1
          have lt419_0 : @LT.lt Nat _ np (Array.size T419.heap) := G419_0.lt
          rcases hvd419 with ⟨hp112, rfl, rfl⟩ | ⟨hp112, rfl, rfl⟩
          · exact absurd hp112 hp44
          · refine own_ru 117 [.null] X419 hx hby e20_115_1 rfl rfl ?_
            refine own_st 120 [] (fun t k => XS.ifnonnullNo X419.here hx rfl (hb hby d20_117) rfl k) ?_
            as_aux_lemma =>
              refine own_ru 122 [(.ref np)] X419 hx hby e20_120_1 rfl rfl ?_
              refine own_st 125 [] (fun t k => XS.ifnullNo X419.here hx rfl (hb hby d20_122) rfl k) ?_
              refine own_ru 127 [(.ref np)] X419 hx hby e20_125_1 rfl rfl ?_
              refine own_gR X419 hx hZ hown (wd105 hw) Via.refl rfl G419_3 130 rfl (hb hby d20_127) rfl fun T421 X421 e421 => ?_
              refine own_st 149 [] (fun t k => XS.ifnonnullYes X421.here hx rfl (pc0 := 130) (pc' := 149) rfl (hb hby d20_130) rfl (by decide) (by decide) k) ?_
              have f423 := (Exa.keep f420 K419)
              have f424 := ((Fld.other W407 P1 (Or.inl (own_ne (by omega)))).keep K419 (own_nS (by omega) nin0))
              have hq422 : Q20nh Z tt lv q l1 s1 l2 s2 np nc vp vc h0 n0 none T419.heap _ := ⟨rfl, N419, (by omega), Or.inr (Or.inr ⟨⟨own_nw hp27, hp61⟩, ⟨np, vp, f423, f424, G419_0, G419_1, G419_2, G419_4, G419_5, G419_3, by omega, by omega, by omega⟩⟩)⟩
              exact own_retV X421 hx hlk hrt (hb hby d20_149) e421 hq422 (by decide) (by decide)
        · refine own_iY 75 X405 hx (hb hby d20_64) rfl ((if0 _ _).trans (teq (by decide : ((0 : Int32) = (0 : Int32)))).1) (by decide) (by decide) ?_
          have hq425 : Q20nh Z tt lv q l1 s1 l2 s2 np nc vp vc h0 n0 none h0 _ := ⟨rfl, N405, (by omega), Or.inl ⟨⟨own_nw hp27, hp61⟩, (Or.inr (Or.inl ⟨np, nc, vp, vc, P0, P1, P2, P3, P4, P5, P6, P7, P8, P9, P10, P11, P12, P13, hw0, hw1, by omega, by omega, by omega, by omega, by omega, by omega⟩))⟩⟩
          exact own_retV X405 hx hlk hrt (hb hby d20_75) e405 hq425 (by decide) (by decide)
  · refine own_iY 52 X398 hx (hb hby d20_30) rfl ((if0 _ _).trans (teq (by decide : ((0 : Int32) = (0 : Int32)))).1) (by decide) (by decide) ?_
    refine own_ru 54 [(.ref np)] X398 hx hby e20_52_1 rfl rfl ?_
    refine own_st 57 [] (fun t k => XS.ifnullNo X398.here hx rfl (hb hby d20_54) rfl k) ?_
    refine own_ru 61 [(.long (own_start lv q)), (.int lv), (.ref np)] X398 hx hby e20_57_3 rfl rfl ?_
    refine own_cR X398 hx hZ hown (wd68 hw) (wd69 hw) (wd70 hw) (wd40 hw) (by decide) (wd71 hw) (wd41 hw) (rm14 l Z a0 hw [] np lv (own_start lv q) l1 s1 h0 n0 (by omega) P3 P4) e398 P2 [(.int lv), (.long (own_start lv q))] [] 64 0 (hb hby d20_61) rfl (by rw [hml]; rfl) rfl rfl (lenOf pd_7 rfl) rfl (by decide) fun v426 T426 Lc426 X426 hQ426 => ?_
    obtain ⟨hvc426, N426q, e426⟩ := hQ426
    have N426 := Fr.app N398 N426q
    rcases hvc426 with ⟨rfl, hp61⟩ | ⟨rfl, hp61⟩
    · refine own_iN 67 X426 hx (hb hby d20_64) rfl ((if0 _ _).trans (feq (by decide : ¬ ((1 : Int32) = (0 : Int32)))).1) rfl ?_
      refine own_ru 69 [(.ref np)] X426 hx hby e20_67_1 rfl rfl ?_
      refine own_gR X426 hx hZ hown (wd105 hw) Via.refl e426 P7 72 rfl (hb hby d20_69) rfl fun T427 X427 e427 => ?_
      refine own_st 76 [] (fun t k => XS.ifnonnullYes X427.here hx rfl (pc0 := 72) (pc' := 76) rfl (hb hby d20_72) rfl (by decide) (by decide) k) ?_
      refine own_ru 79 [.null, (.ref np)] X427 hx hby e20_76_2 rfl rfl ?_
      refine own_pR X427 hx hZ hown (wd105 hw) e427 P7 P2 (wd51 hw) (wd40 hw) (ty := (.object "java/lang/Object")) (by decide) rfl rfl 82 rfl (hb hby d20_79) rfl fun T428 h428 X428 e428 W428 => ?_
      have F428 := Fld.same W428 P7
      have z428 := W428.size
      have N428 := Fr.snoc X428 N426 (by omega)
      refine own_ru 84 [(.ref np)] X428 hx hby e20_82_1 rfl rfl ?_
      have f429 := (Fld.other W428 P5 (Or.inr (slot_ne (Or.inl (wd95 hw)) (Or.inl (wd51 hw)) (by decide) (t := (.object "com/example/mullion/mullion/service/DyadicTrie$Node")) (t' := (.object "java/lang/Object")) (by decide) (by decide))))
      refine own_gR X428 hx hZ hown (wd106 hw) Via.refl e428 f429 87 rfl (hb hby d20_84) rfl fun T430 X430 e430 => ?_
      refine own_st 99 [] (fun t k => XS.ifnullYes X430.here hx rfl (pc0 := 87) (pc' := 99) rfl (hb hby d20_87) rfl (by decide) (by decide) k) ?_
      refine own_ru 101 [(.ref np)] X430 hx hby e20_99_1 rfl rfl ?_
      have f431 := (Fld.other W428 P6 (Or.inr (slot_ne (Or.inl (wd93 hw)) (Or.inl (wd51 hw)) (by decide) (t := (.object "com/example/mullion/mullion/service/DyadicTrie$Node")) (t' := (.object "java/lang/Object")) (by decide) (by decide))))
      have f433 := (Exa.wr W428 P2)
      refine own_cR X430 hx hZ hown (wd107 hw) (wd108 hw) (wd109 hw) (wd40 hw) (by decide) (wd110 hw) (wd41 hw) (rm22h l Z a0 hw [] np (.ref nc) h428 n0 (by omega) f429 f431 rfl) e430 f433 [] [] 104 0 (hb hby d20_101) rfl (by rw [hml]; rfl) rfl rfl (lenOf pd_11 rfl) rfl (by decide) fun v432 T432 Lc432 X432 hQ432 => ?_
      obtain ⟨rfl, N432q, e432⟩ := hQ432
      have N432 := Fr.app N428 N432q
      refine own_rl 112 #[.val (.ref tt), .val (.int lv), .val (.int q), .val (.long (own_start lv q)), .second, .val .null, .val .null, .val (.ref np), .val (.ref nc)] [(.ref nc), (.long (own_start lv q)), .null, (.ref tt)] X432 hx hby e20_104_5 rfl rfl ?_
      have f434 := (Exa.wr W428 P0)
      have f435 := (Fld.other W428 P1 (Or.inl (own_ne (by omega))))
      refine own_cG X432 hx hZ hown (wd52 hw) (wd53 hw) (own_selPriv (mvT hZ (wd1 hw)) (Cond.privateMethod_at (mvP hZ (wd54 hw) (args := #[]))) (mvT hZ (wd53 hw)) (by decide)) (wd54 hw) (by decide) (wd55 hw) (wd2 hw) (rm10n l Z a0 hw [] tt (own_start lv q) (.ref nc) (.ref np) h428 n0 (by omega) f434 f435 (by omega) rfl) e432 f434 [.null, (.long (own_start lv q)), (.ref nc)] [] 115 0 (hb hby d20_112) rfl (by rw [hml]; rfl) rfl rfl (lenOf pd_6 rfl) rfl (by decide) fun v436 T436 Lc436 X436 hQ436 => ?_
      obtain ⟨rfl, N436q, K436, G436_0, G436_1⟩ := hQ436
      have N436 := Fr.app N432 N436q
      have z436 := K436.1
      have lt436_0 : @LT.lt Nat _ tt (Array.size T436.heap) := G436_0.lt
      refine own_ru 117 [(.ref nc)] X436 hx hby e20_115_1 rfl rfl ?_
      refine own_st 149 [] (fun t k => XS.ifnonnullYes X436.here hx rfl (pc0 := 117) (pc' := 149) rfl (hb hby d20_117) rfl (by decide) (by decide) k) ?_
      have f438 := (Exa.keep (Exa.wr W428 P8) K436)
      have f439 := ((Fld.other W428 P9 (Or.inl (own_ne (by omega)))).keep K436 (own_nS (by omega) nin0))
      have f440 := ((Fld.other W428 P10 (Or.inl (own_ne (by omega)))).keep K436 (own_nS (by omega) nin0))
      have f441 := ((Fld.other W428 P11 (Or.inl (own_ne (by omega)))).keep K436 (own_nS (by omega) nin0))
      have f442 := ((Fld.other W428 P12 (Or.inl (own_ne (by omega)))).keep K436 (own_nS (by omega) nin0))
      have f443 := ((Fld.other W428 P13 (Or.inl (own_ne (by omega)))).keep K436 (own_nS (by omega) nin0))
      have hq437 : Q20nh Z tt lv q l1 s1 l2 s2 np nc vp vc h0 n0 none T436.heap _ := ⟨rfl, N436, (by omega), Or.inr (Or.inl ⟨⟨hp61, own_na hw0 hp61⟩, ⟨nc, vc, G436_0, G436_1, f438, f439, f440, f441, f442, f443, by omega, by omega, by omega⟩⟩)⟩
      exact own_retV X436 hx hlk hrt (hb hby d20_149) rfl hq437 (by decide) (by decide)
    · refine own_iY 75 X426 hx (hb hby d20_64) rfl ((if0 _ _).trans (teq (by decide : ((0 : Int32) = (0 : Int32)))).1) (by decide) (by decide) ?_
      have hq444 : Q20nh Z tt lv q l1 s1 l2 s2 np nc vp vc h0 n0 none h0 _ := ⟨rfl, N426, (by omega), Or.inl ⟨⟨hp61, own_nc hw0 hp27⟩, (Or.inr (Or.inl ⟨np, nc, vp, vc, P0, P1, P2, P3, P4, P5, P6, P7, P8, P9, P10, P11, P12, P13, hw0, hw1, by omega, by omega, by omega, by omega, by omega, by omega⟩))⟩⟩
      exact own_retV X426 hx hlk hrt (hb hby d20_75) e426 hq444 (by decide) (by decide)
theorem d20_138 : decode prog_41_method_7_code 138 = .ok (.getfield 53, 3) := by decide +kernel
theorem d20_143 : decode prog_41_method_7_code 143 = .ok (.invokevirtual 71, 3) := by decide +kernel
theorem d20_146 : decode prog_41_method_7_code 146 = .ok (.invokevirtual 61, 3) := by decide +kernel
theorem e20_133_3 : own_dec prog_41_method_7_code 133 [(.aload_n 0, 1), (.aload 5, 2), (.aload 6, 2)] = true := by decide +kernel
theorem e20_141_1 : own_dec prog_41_method_7_code 141 [(.aload 6, 2)] = true := by decide +kernel
def Q20f (Z : State) (tt : Addr) (lv : Int32) (q : Int32) (l1 : Int32) (s1 : Int64) (l2 : Int32) (s2 : Int64) (nr : Addr) (na : Addr) (nb : Addr) (va : Addr) (vb : Addr) (lr : Int32) (sr : Int64) (h0 : Heap) (n0 : Nat) (v : Option Value) (h : Heap) (L : List Loc) : Prop := v = none ∧ Fr n0 L ∧ h0.size ≤ h.size ∧ own_R2 Z h n0 tt lv (own_start lv q) l1 s1 l2 s2
set_option maxRecDepth 65536 in
set_option maxHeartbeats 40000000 in
theorem rm20f (l : Launch) (Z : State) (a0 : Array Value) (hw : OW a0 Z) (ws : List Jvm.Cond) (tt : Addr) (lv : Int32) (q : Int32) (l1 : Int32) (s1 : Int64) (l2 : Int32) (s2 : Int64) (nr : Addr) (na : Addr) (nb : Addr) (va : Addr) (vb : Addr) (lr : Int32) (sr : Int64) (h0 : Heap) (n0 : Nat) (Z0 : n0 ≤ h0.size) (P0 : ex7 Z h0 tt) (P1 : fl0 Z h0 tt (.ref nr)) (P2 : ex1 Z h0 nr) (P3 : fl2 Z h0 nr (.int lr)) (P4 : fl3 Z h0 nr (.long sr)) (P5 : fl5 Z h0 nr (.ref na)) (P6 : fl6 Z h0 nr (.ref nb)) (P7 : fl4 Z h0 nr .null) (P8 : ex1 Z h0 na) (P9 : fl2 Z h0 na (.int l1)) (P10 : fl3 Z h0 na (.long s1)) (P11 : fl5 Z h0 na .null) (P12 : fl6 Z h0 na .null) (P13 : fl4 Z h0 na (.ref va)) (P14 : ex1 Z h0 nb) (P15 : fl2 Z h0 nb (.int l2)) (P16 : fl3 Z h0 nb (.long s2)) (P17 : fl5 Z h0 nb .null) (P18 : fl6 Z h0 nb .null) (P19 : fl4 Z h0 nb (.ref vb)) (g_tt : n0 ≤ tt) (g_nr : n0 ≤ nr) (g_na : n0 ≤ na) (g_nb : n0 ≤ nb) (hw0 : own_wid lr sr l1 s1) (hw1 : own_wid lr sr l2 s2) (hw2 : own_low lr s1) (hw3 : ¬ own_low lr s2) (ho0 : @Ne Nat tt nr) (ho1 : @Ne Nat tt na) (ho2 : @Ne Nat tt nb) (ho3 : @Ne Nat nr na) (ho4 : @Ne Nat nr nb) (ho5 : @Ne Nat na nb) :
    own_Met l my20 prog_41_method_7_code 9 none ws (own_rm 4 0 0 80) #[(.ref tt), (.int lv), (.int q)] Z h0 (Q20f Z tt lv q l1 s1 l2 s2 nr na nb va vb lr sr h0 n0) 0 0 := by
  refine own_body (plainFor_of_name pn_1) (fun m => by first | (simp [entryFrame, mkF, argsToLocals, Value.category]; done) | rfl) (Ls := #[.val (.ref tt), .val (.int lv), .val (.int q), .unset, .unset, .unset, .unset, .unset, .unset]) fun p e s m below meth c s₁ X0 hx hby hml hZ e0 hown hnm hlk hrt => ?_
  have N0 := Fr.nil n0
  have lt_P0 : @LT.lt Nat _ tt (Array.size h0) := P0.lt
  have lt_P2 : @LT.lt Nat _ nr (Array.size h0) := P2.lt
  have lt_P8 : @LT.lt Nat _ na (Array.size h0) := P8.lt
  have lt_P14 : @LT.lt Nat _ nb (Array.size h0) := P14.lt
  refine own_ru 2 [(.int q), (.int lv)] X0 hx hby e20_0_2 rfl rfl ?_
  refine own_cS X0 hx hZ hown (wd28 hw) (wd29 hw) (by decide) (wd30 hw) (wd2 hw) (rm6 l Z a0 hw [] lv q h0 n0 (by omega) ) e0  [(.int lv), (.int q)] [] 5 0 (hb hby d20_2) rfl (by rw [hml]; rfl) rfl rfl (lenOf pd_1 rfl) rfl (by decide) fun v445 T445 Lc445 X445 hQ445 => ?_
  obtain ⟨rfl, N445q, e445⟩ := hQ445
  have N445 := Fr.app N0 N445q
  refine own_rl 13 #[.val (.ref tt), .val (.int lv), .val (.int q), .val (.long (own_start lv q)), .second, .val .null, .val .null, .unset, .unset] [(.ref tt)] X445 hx hby e20_5_6 rfl rfl ?_
  refine own_gF X445 hx hZ hown (host := "") (Or.inl (wd14 hw)) Via.refl e445 P1 16 rfl (hb hby d20_13) rfl fun T446 X446 e446 => ?_
  refine own_rl 20 #[.val (.ref tt), .val (.int lv), .val (.int q), .val (.long (own_start lv q)), .second, .val .null, .val .null, .val (.ref nr), .unset] [(.ref nr)] X446 hx hby e20_16_2 rfl rfl ?_
  refine own_st 23 [] (fun t k => XS.ifnullNo X446.here hx rfl (hb hby d20_20) rfl k) ?_
  refine own_ru 27 [(.long (own_start lv q)), (.int lv), (.ref nr)] X446 hx hby e20_23_3 rfl rfl ?_
  refine own_cR X446 hx hZ hown (wd60 hw) (wd61 hw) (wd62 hw) (wd40 hw) (by decide) (wd63 hw) (wd41 hw) (rm12 l Z a0 hw [] nr lv (own_start lv q) lr sr h0 n0 (by omega) P2 P3 P4) e446 P2 [(.int lv), (.long (own_start lv q))] [] 30 0 (hb hby d20_27) rfl (by rw [hml]; rfl) rfl rfl (lenOf pd_7 rfl) rfl (by decide) fun v447 T447 Lc447 X447 hQ447 => ?_
  obtain ⟨hvc447, N447q, e447⟩ := hQ447
  have N447 := Fr.app N445 N447q
  rcases hvc447 with ⟨rfl, hp27⟩ | ⟨rfl, hp27⟩
  · refine own_iN 33 X447 hx (hb hby d20_30) rfl ((if0 _ _).trans (feq (by decide : ¬ ((1 : Int32) = (0 : Int32)))).1) rfl ?_
    refine own_rl 44 #[.val (.ref tt), .val (.int lv), .val (.int q), .val (.long (own_start lv q)), .second, .val .null, .val (.ref nr), .val (.ref nr), .unset] [(.long (own_start lv q)), (.ref nr)] X447 hx hby e20_33_6 rfl rfl ?_
    refine own_cR X447 hx hZ hown (wd101 hw) (wd102 hw) (wd103 hw) (wd40 hw) (by decide) (wd104 hw) (wd41 hw) (rm21 l Z a0 hw [] nr (own_start lv q) lr (.ref na) (.ref nb) h0 n0 (by omega) P2 P3 P5 P6 rfl rfl) e447 P2 [(.long (own_start lv q))] [] 47 0 (hb hby d20_44) rfl (by rw [hml]; rfl) rfl rfl (lenOf pd_8 rfl) rfl (by decide) fun v448 T448 Lc448 X448 hQ448 => ?_
    obtain ⟨hvc448, N448q, e448⟩ := hQ448
    have N448 := Fr.app N447 N448q
    rcases hvc448 with ⟨hp44, rfl⟩ | ⟨hp44, rfl⟩
    · refine own_rl 49 #[.val (.ref tt), .val (.int lv), .val (.int q), .val (.long (own_start lv q)), .second, .val .null, .val (.ref nr), .val (.ref na), .unset] [] X448 hx hby e20_47_1 rfl rfl ?_
      refine own_go 18 X448 hx (hb hby d20_49) (by decide) (by decide) ?_
      refine own_ru 20 [(.ref na)] X448 hx hby e20_18_1 rfl rfl ?_
      refine own_st 23 [] (fun t k => XS.ifnullNo X448.here hx rfl (hb hby d20_20) rfl k) ?_
      refine own_ru 27 [(.long (own_start lv q)), (.int lv), (.ref na)] X448 hx hby e20_23_3 rfl rfl ?_
      refine own_cR X448 hx hZ hown (wd60 hw) (wd61 hw) (wd62 hw) (wd40 hw) (by decide) (wd63 hw) (wd41 hw) (rm12 l Z a0 hw [] na lv (own_start lv q) l1 s1 h0 n0 (by omega) P8 P9 P10) e448 P8 [(.int lv), (.long (own_start lv q))] [] 30 0 (hb hby d20_27) rfl (by rw [hml]; rfl) rfl rfl (lenOf pd_7 rfl) rfl (by decide) fun v449 T449 Lc449 X449 hQ449 => ?_
      obtain ⟨hvc449, N449q, e449⟩ := hQ449
      have N449 := Fr.app N448 N449q
      rcases hvc449 with ⟨rfl, hp27b⟩ | ⟨rfl, hp27b⟩
      · refine own_iN 33 X449 hx (hb hby d20_30) rfl ((if0 _ _).trans (feq (by decide : ¬ ((1 : Int32) = (0 : Int32)))).1) rfl ?_
        refine own_rl 44 #[.val (.ref tt), .val (.int lv), .val (.int q), .val (.long (own_start lv q)), .second, .val (.ref nr), .val (.ref na), .val (.ref na), .unset] [(.long (own_start lv q)), (.ref na)] X449 hx hby e20_33_6 rfl rfl ?_
        refine own_cR X449 hx hZ hown (wd101 hw) (wd102 hw) (wd103 hw) (wd40 hw) (by decide) (wd104 hw) (wd41 hw) (rm21 l Z a0 hw [] na (own_start lv q) l1 .null .null h0 n0 (by omega) P8 P9 P11 P12 rfl rfl) e449 P8 [(.long (own_start lv q))] [] 47 0 (hb hby d20_44) rfl (by rw [hml]; rfl) rfl rfl (lenOf pd_8 rfl) rfl (by decide) fun v450 T450 Lc450 X450 hQ450 => ?_
        obtain ⟨hvc450, N450q, e450⟩ := hQ450
        have N450 := Fr.app N449 N450q
        rcases hvc450 with ⟨hp44b, rfl⟩ | ⟨hp44b, rfl⟩
        · refine own_rl 49 #[.val (.ref tt), .val (.int lv), .val (.int q), .val (.long (own_start lv q)), .second, .val (.ref nr), .val (.ref na), .val .null, .unset] [] X450 hx hby e20_47_1 rfl rfl ?_
          refine own_go 18 X450 hx (hb hby d20_49) (by decide) (by decide) ?_
          refine own_ru 20 [.null] X450 hx hby e20_18_1 rfl rfl ?_
          refine own_st 52 [] (fun t k => XS.ifnullYes X450.here hx rfl (pc0 := 20) (pc' := 52) rfl (hb hby d20_20) rfl (by decide) (by decide) k) ?_
          refine own_ru 54 [.null] X450 hx hby e20_52_1 rfl rfl ?_
          refine own_st 75 [] (fun t k => XS.ifnullYes X450.here hx rfl (pc0 := 54) (pc' := 75) rfl (hb hby d20_54) rfl (by decide) (by decide) k) ?_
          have hq451 : Q20f Z tt lv q l1 s1 l2 s2 nr na nb va vb lr sr h0 n0 none h0 _ := ⟨rfl, N450, (by omega), Or.inl ⟨⟨own_nw hp27b, own_ns2 hw3 hp44⟩, (Or.inr (Or.inr (Or.inr (Or.inr (Or.inl ⟨nr, na, nb, va, vb, lr, sr, P0, P1, P2, P3, P4, P5, P6, P7, P8, P9, P10, P11, P12, P13, P14, P15, P16, P17, P18, P19, hw0, hw1, hw2, hw3, by omega, by omega, by omega, by omega, by omega, by omega, by omega, by omega, by omega, by omega⟩)))))⟩⟩
          exact own_retV X450 hx hlk hrt (hb hby d20_75) e450 hq451 (by decide) (by decide)
        · refine own_rl 49 #[.val (.ref tt), .val (.int lv), .val (.int q), .val (.long (own_start lv q)), .second, .val (.ref nr), .val (.ref na), .val .null, .unset] [] X450 hx hby e20_47_1 rfl rfl ?_
          refine own_go 18 X450 hx (hb hby d20_49) (by decide) (by decide) ?_
          refine own_ru 20 [.null] X450 hx hby e20_18_1 rfl rfl ?_
          refine own_st 52 [] (fun t k => XS.ifnullYes X450.here hx rfl (pc0 := 20) (pc' := 52) rfl (hb hby d20_20) rfl (by decide) (by decide) k) ?_
          refine own_ru 54 [.null] X450 hx hby e20_52_1 rfl rfl ?_
          refine own_st 75 [] (fun t k => XS.ifnullYes X450.here hx rfl (pc0 := 54) (pc' := 75) rfl (hb hby d20_54) rfl (by decide) (by decide) k) ?_
          have hq452 : Q20f Z tt lv q l1 s1 l2 s2 nr na nb va vb lr sr h0 n0 none h0 _ := ⟨rfl, N450, (by omega), Or.inl ⟨⟨own_nw hp27b, own_ns2 hw3 hp44⟩, (Or.inr (Or.inr (Or.inr (Or.inr (Or.inl ⟨nr, na, nb, va, vb, lr, sr, P0, P1, P2, P3, P4, P5, P6, P7, P8, P9, P10, P11, P12, P13, P14, P15, P16, P17, P18, P19, hw0, hw1, hw2, hw3, by omega, by omega, by omega, by omega, by omega, by omega, by omega, by omega, by omega, by omega⟩)))))⟩⟩
          exact own_retV X450 hx hlk hrt (hb hby d20_75) e450 hq452 (by decide) (by decide)
      · refine own_iY 52 X449 hx (hb hby d20_30) rfl ((if0 _ _).trans (teq (by decide : ((0 : Int32) = (0 : Int32)))).1) (by decide) (by decide) ?_
        refine own_ru 54 [(.ref na)] X449 hx hby e20_52_1 rfl rfl ?_
        refine own_st 57 [] (fun t k => XS.ifnullNo X449.here hx rfl (hb hby d20_54) rfl k) ?_
        refine own_ru 61 [(.long (own_start lv q)), (.int lv), (.ref na)] X449 hx hby e20_57_3 rfl rfl ?_
        refine own_cR X449 hx hZ hown (wd68 hw) (wd69 hw) (wd70 hw) (wd40 hw) (by decide) (wd71 hw) (wd41 hw) (rm14 l Z a0 hw [] na lv (own_start lv q) l1 s1 h0 n0 (by omega) P9 P10) e449 P8 [(.int lv), (.long (own_start lv q))] [] 64 0 (hb hby d20_61) rfl (by rw [hml]; rfl) rfl rfl (lenOf pd_7 rfl) rfl (by decide) fun v453 T453 Lc453 X453 hQ453 => ?_
        obtain ⟨hvc453, N453q, e453⟩ := hQ453
        have N453 := Fr.app N449 N453q
        rcases hvc453 with ⟨rfl, hp61⟩ | ⟨rfl, hp61⟩
        · refine own_iN 67 X453 hx (hb hby d20_64) rfl ((if0 _ _).trans (feq (by decide : ¬ ((1 : Int32) = (0 : Int32)))).1) rfl ?_
          refine own_ru 69 [(.ref na)] X453 hx hby e20_67_1 rfl rfl ?_
          refine own_gR X453 hx hZ hown (wd105 hw) Via.refl e453 P13 72 rfl (hb hby d20_69) rfl fun T454 X454 e454 => ?_
          refine own_st 76 [] (fun t k => XS.ifnonnullYes X454.here hx rfl (pc0 := 72) (pc' := 76) rfl (hb hby d20_72) rfl (by decide) (by decide) k) ?_
          refine own_ru 79 [.null, (.ref na)] X454 hx hby e20_76_2 rfl rfl ?_
          refine own_pR X454 hx hZ hown (wd105 hw) e454 P13 P8 (wd51 hw) (wd40 hw) (ty := (.object "java/lang/Object")) (by decide) rfl rfl 82 rfl (hb hby d20_79) rfl fun T455 h455 X455 e455 W455 => ?_
          have F455 := Fld.same W455 P13
          have z455 := W455.size
          have N455 := Fr.snoc X455 N453 (by omega)
          refine own_ru 84 [(.ref na)] X455 hx hby e20_82_1 rfl rfl ?_
          have f456 := (Fld.other W455 P11 (Or.inr (slot_ne (Or.inl (wd95 hw)) (Or.inl (wd51 hw)) (by decide) (t := (.object "com/example/mullion/mullion/service/DyadicTrie$Node")) (t' := (.object "java/lang/Object")) (by decide) (by decide))))
          refine own_gR X455 hx hZ hown (wd106 hw) Via.refl e455 f456 87 rfl (hb hby d20_84) rfl fun T457 X457 e457 => ?_
          refine own_st 99 [] (fun t k => XS.ifnullYes X457.here hx rfl (pc0 := 87) (pc' := 99) rfl (hb hby d20_87) rfl (by decide) (by decide) k) ?_
          refine own_ru 101 [(.ref na)] X457 hx hby e20_99_1 rfl rfl ?_
          have f458 := (Fld.other W455 P12 (Or.inr (slot_ne (Or.inl (wd93 hw)) (Or.inl (wd51 hw)) (by decide) (t := (.object "com/example/mullion/mullion/service/DyadicTrie$Node")) (t' := (.object "java/lang/Object")) (by decide) (by decide))))
          have f460 := (Exa.wr W455 P8)
          refine own_cR X457 hx hZ hown (wd107 hw) (wd108 hw) (wd109 hw) (wd40 hw) (by decide) (wd110 hw) (wd41 hw) (rm22h l Z a0 hw [] na .null h455 n0 (by omega) f456 f458 rfl) e457 f460 [] [] 104 0 (hb hby d20_101) rfl (by rw [hml]; rfl) rfl rfl (lenOf pd_11 rfl) rfl (by decide) fun v459 T459 Lc459 X459 hQ459 => ?_
          obtain ⟨rfl, N459q, e459⟩ := hQ459
          have N459 := Fr.app N455 N459q
          refine own_rl 112 #[.val (.ref tt), .val (.int lv), .val (.int q), .val (.long (own_start lv q)), .second, .val .null, .val (.ref nr), .val (.ref na), .val .null] [.null, (.long (own_start lv q)), (.ref nr), (.ref tt)] X459 hx hby e20_104_5 rfl rfl ?_
          have f461 := (Exa.wr W455 P2)
          have f462 := (Fld.other W455 P3 (Or.inl (own_ne (by omega))))
          have f463 := (Fld.other W455 P4 (Or.inl (own_ne (by omega))))
          have f464 := (Fld.other W455 P7 (Or.inl (own_ne (by omega))))
          have f465 := (Fld.other W455 P5 (Or.inl (own_ne (by omega))))
          have f466 := (Fld.other W455 P6 (Or.inl (own_ne (by omega))))
          have f468 := (Exa.wr W455 P0)
          refine own_cG X459 hx hZ hown (wd52 hw) (wd53 hw) (own_selPriv (mvT hZ (wd1 hw)) (Cond.privateMethod_at (mvP hZ (wd54 hw) (args := #[]))) (mvT hZ (wd53 hw)) (by decide)) (wd54 hw) (by decide) (wd55 hw) (wd2 hw) (rm10p l Z a0 hw [] tt nr (own_start lv q) (.null) lr sr .null (.ref na) (.ref nb) h455 n0 (by omega) f461 f462 f463 f464 f465 f466 (by omega) rfl) e459 f468 [(.ref nr), (.long (own_start lv q)), .null] [] 115 0 (hb hby d20_112) rfl (by rw [hml]; rfl) rfl rfl (lenOf pd_6 rfl) rfl (by decide) fun v467 T467 Lc467 X467 hQ467 => ?_
          obtain ⟨vl_467, vh_467, rfl, N467q, K467, G467_0, G467_1, G467_2, G467_3, G467_4, G467_5, hvd467⟩ := hQ467
          have N467 := Fr.app N459 N467q
          have z467 := K467.1
          have lt467_0 : @LT.lt Nat _ nr (Array.size T467.heap) := G467_0.lt
          rcases hvd467 with ⟨hp112, rfl, rfl⟩ | ⟨hp112, rfl, rfl⟩
          · refine own_ru 117 [.null] X467 hx hby e20_115_1 rfl rfl ?_
            refine own_st 120 [] (fun t k => XS.ifnonnullNo X467.here hx rfl (hb hby d20_117) rfl k) ?_
            as_aux_lemma =>
              refine own_ru 122 [(.ref nr)] X467 hx hby e20_120_1 rfl rfl ?_
              refine own_st 125 [] (fun t k => XS.ifnullNo X467.here hx rfl (hb hby d20_122) rfl k) ?_
              refine own_ru 127 [(.ref nr)] X467 hx hby e20_125_1 rfl rfl ?_
              refine own_gR X467 hx hZ hown (wd105 hw) Via.refl rfl G467_3 130 rfl (hb hby d20_127) rfl fun T469 X469 e469 => ?_
              refine own_st 133 [] (fun t k => XS.ifnonnullNo X469.here hx rfl (hb hby d20_130) rfl k) ?_
              refine own_ru 138 [(.ref nr), .null, (.ref tt)] X469 hx hby e20_133_3 rfl rfl ?_
              refine own_gR X469 hx hZ hown (wd73 hw) Via.refl e469 G467_2 141 rfl (hb hby d20_138) rfl fun T470 X470 e470 => ?_
              refine own_ru 143 [(.ref nr), (.long sr), .null, (.ref tt)] X470 hx hby e20_141_1 rfl rfl ?_
              refine own_cR X470 hx hZ hown (wd107 hw) (wd108 hw) (wd109 hw) (wd40 hw) (by decide) (wd110 hw) (wd41 hw) (rm22h l Z a0 hw [] nr (.ref nb) T467.heap n0 (by omega) G467_4 G467_5 rfl) e470 G467_0 [] [(.long sr), .null, (.ref tt)] 146 4 (hb hby d20_143) rfl (by rw [hml]; rfl) rfl rfl (lenOf pd_11 rfl) rfl (by decide) fun v471 T471 Lc471 X471 hQ471 => ?_
              obtain ⟨rfl, N471q, e471⟩ := hQ471
              have N471 := Fr.app N467 N471q
              have f472 := (Exa.keep f468 K467)
              have f473 := ((Fld.other W455 P1 (Or.inl (own_ne (by omega)))).keep K467 (own_nS (by omega) nin0))
              refine own_cG X471 hx hZ hown (wd52 hw) (wd53 hw) (own_selPriv (mvT hZ (wd1 hw)) (Cond.privateMethod_at (mvP hZ (wd54 hw) (args := #[]))) (mvT hZ (wd53 hw)) (by decide)) (wd54 hw) (by decide) (wd55 hw) (wd2 hw) (rm10n l Z a0 hw [] tt sr (.ref nb) (.ref nr) T467.heap n0 (by omega) f472 f473 (by omega) rfl) e471 f472 [.null, (.long sr), (.ref nb)] [] 149 0 (hb hby d20_146) rfl (by rw [hml]; rfl) rfl rfl (lenOf pd_6 rfl) rfl (by decide) fun v474 T474 Lc474 X474 hQ474 => ?_
              obtain ⟨rfl, N474q, K474, G474_0, G474_1⟩ := hQ474
              have N474 := Fr.app N471 N474q
              have z474 := K474.1
              have lt474_0 : @LT.lt Nat _ tt (Array.size T474.heap) := G474_0.lt
              have f476 := (Exa.keep (Exa.keep (Exa.wr W455 P14) K467) K474)
              have f477 := (((Fld.other W455 P15 (Or.inl (own_ne (by omega)))).keep K467 (own_nS (by omega) nin0)).keep K474 (own_nS (by omega) nin0))
              have f478 := (((Fld.other W455 P16 (Or.inl (own_ne (by omega)))).keep K467 (own_nS (by omega) nin0)).keep K474 (own_nS (by omega) nin0))
              have f479 := (((Fld.other W455 P17 (Or.inl (own_ne (by omega)))).keep K467 (own_nS (by omega) nin0)).keep K474 (own_nS (by omega) nin0))
              have f480 := (((Fld.other W455 P18 (Or.inl (own_ne (by omega)))).keep K467 (own_nS (by omega) nin0)).keep K474 (own_nS (by omega) nin0))
              have f481 := (((Fld.other W455 P19 (Or.inl (own_ne (by omega)))).keep K467 (own_nS (by omega) nin0)).keep K474 (own_nS (by omega) nin0))
              have hq475 : Q20f Z tt lv q l1 s1 l2 s2 nr na nb va vb lr sr h0 n0 none T474.heap _ := ⟨rfl, N474, (by omega), Or.inr (Or.inl ⟨⟨hp61, own_ns2 hw3 hp44⟩, ⟨nb, vb, G474_0, G474_1, f476, f477, f478, f479, f480, f481, by omega, by omega, by omega⟩⟩)⟩
              exact own_retV X474 hx hlk hrt (hb hby d20_149) rfl hq475 (by decide) (by decide)
          · exact absurd hp44 hp112
        · refine own_iY 75 X453 hx (hb hby d20_64) rfl ((if0 _ _).trans (teq (by decide : ((0 : Int32) = (0 : Int32)))).1) (by decide) (by decide) ?_
          have hq482 : Q20f Z tt lv q l1 s1 l2 s2 nr na nb va vb lr sr h0 n0 none h0 _ := ⟨rfl, N453, (by omega), Or.inl ⟨⟨hp61, own_ns2 hw3 hp44⟩, (Or.inr (Or.inr (Or.inr (Or.inr (Or.inl ⟨nr, na, nb, va, vb, lr, sr, P0, P1, P2, P3, P4, P5, P6, P7, P8, P9, P10, P11, P12, P13, P14, P15, P16, P17, P18, P19, hw0, hw1, hw2, hw3, by omega, by omega, by omega, by omega, by omega, by omega, by omega, by omega, by omega, by omega⟩)))))⟩⟩
          exact own_retV X453 hx hlk hrt (hb hby d20_75) e453 hq482 (by decide) (by decide)
    · refine own_rl 49 #[.val (.ref tt), .val (.int lv), .val (.int q), .val (.long (own_start lv q)), .second, .val .null, .val (.ref nr), .val (.ref nb), .unset] [] X448 hx hby e20_47_1 rfl rfl ?_
      refine own_go 18 X448 hx (hb hby d20_49) (by decide) (by decide) ?_
      refine own_ru 20 [(.ref nb)] X448 hx hby e20_18_1 rfl rfl ?_
      refine own_st 23 [] (fun t k => XS.ifnullNo X448.here hx rfl (hb hby d20_20) rfl k) ?_
      refine own_ru 27 [(.long (own_start lv q)), (.int lv), (.ref nb)] X448 hx hby e20_23_3 rfl rfl ?_
      refine own_cR X448 hx hZ hown (wd60 hw) (wd61 hw) (wd62 hw) (wd40 hw) (by decide) (wd63 hw) (wd41 hw) (rm12 l Z a0 hw [] nb lv (own_start lv q) l2 s2 h0 n0 (by omega) P14 P15 P16) e448 P14 [(.int lv), (.long (own_start lv q))] [] 30 0 (hb hby d20_27) rfl (by rw [hml]; rfl) rfl rfl (lenOf pd_7 rfl) rfl (by decide) fun v483 T483 Lc483 X483 hQ483 => ?_
      obtain ⟨hvc483, N483q, e483⟩ := hQ483
      have N483 := Fr.app N448 N483q
      rcases hvc483 with ⟨rfl, hp27b⟩ | ⟨rfl, hp27b⟩
      · refine own_iN 33 X483 hx (hb hby d20_30) rfl ((if0 _ _).trans (feq (by decide : ¬ ((1 : Int32) = (0 : Int32)))).1) rfl ?_
        refine own_rl 44 #[.val (.ref tt), .val (.int lv), .val (.int q), .val (.long (own_start lv q)), .second, .val (.ref nr), .val (.ref nb), .val (.ref nb), .unset] [(.long (own_start lv q)), (.ref nb)] X483 hx hby e20_33_6 rfl rfl ?_
        refine own_cR X483 hx hZ hown (wd101 hw) (wd102 hw) (wd103 hw) (wd40 hw) (by decide) (wd104 hw) (wd41 hw) (rm21 l Z a0 hw [] nb (own_start lv q) l2 .null .null h0 n0 (by omega) P14 P15 P17 P18 rfl rfl) e483 P14 [(.long (own_start lv q))] [] 47 0 (hb hby d20_44) rfl (by rw [hml]; rfl) rfl rfl (lenOf pd_8 rfl) rfl (by decide) fun v484 T484 Lc484 X484 hQ484 => ?_
        obtain ⟨hvc484, N484q, e484⟩ := hQ484
        have N484 := Fr.app N483 N484q
        rcases hvc484 with ⟨hp44b, rfl⟩ | ⟨hp44b, rfl⟩
        · refine own_rl 49 #[.val (.ref tt), .val (.int lv), .val (.int q), .val (.long (own_start lv q)), .second, .val (.ref nr), .val (.ref nb), .val .null, .unset] [] X484 hx hby e20_47_1 rfl rfl ?_
          refine own_go 18 X484 hx (hb hby d20_49) (by decide) (by decide) ?_
          refine own_ru 20 [.null] X484 hx hby e20_18_1 rfl rfl ?_
          refine own_st 52 [] (fun t k => XS.ifnullYes X484.here hx rfl (pc0 := 20) (pc' := 52) rfl (hb hby d20_20) rfl (by decide) (by decide) k) ?_
          refine own_ru 54 [.null] X484 hx hby e20_52_1 rfl rfl ?_
          refine own_st 75 [] (fun t k => XS.ifnullYes X484.here hx rfl (pc0 := 54) (pc' := 75) rfl (hb hby d20_54) rfl (by decide) (by decide) k) ?_
          have hq485 : Q20f Z tt lv q l1 s1 l2 s2 nr na nb va vb lr sr h0 n0 none h0 _ := ⟨rfl, N484, (by omega), Or.inl ⟨⟨own_ns1 hw2 hp44, own_nw hp27b⟩, (Or.inr (Or.inr (Or.inr (Or.inr (Or.inl ⟨nr, na, nb, va, vb, lr, sr, P0, P1, P2, P3, P4, P5, P6, P7, P8, P9, P10, P11, P12, P13, P14, P15, P16, P17, P18, P19, hw0, hw1, hw2, hw3, by omega, by omega, by omega, by omega, by omega, by omega, by omega, by omega, by omega, by omega⟩)))))⟩⟩
          exact own_retV X484 hx hlk hrt (hb hby d20_75) e484 hq485 (by decide) (by decide)
        · refine own_rl 49 #[.val (.ref tt), .val (.int lv), .val (.int q), .val (.long (own_start lv q)), .second, .val (.ref nr), .val (.ref nb), .val .null, .unset] [] X484 hx hby e20_47_1 rfl rfl ?_
          refine own_go 18 X484 hx (hb hby d20_49) (by decide) (by decide) ?_
          refine own_ru 20 [.null] X484 hx hby e20_18_1 rfl rfl ?_
          refine own_st 52 [] (fun t k => XS.ifnullYes X484.here hx rfl (pc0 := 20) (pc' := 52) rfl (hb hby d20_20) rfl (by decide) (by decide) k) ?_
          refine own_ru 54 [.null] X484 hx hby e20_52_1 rfl rfl ?_
          refine own_st 75 [] (fun t k => XS.ifnullYes X484.here hx rfl (pc0 := 54) (pc' := 75) rfl (hb hby d20_54) rfl (by decide) (by decide) k) ?_
          have hq486 : Q20f Z tt lv q l1 s1 l2 s2 nr na nb va vb lr sr h0 n0 none h0 _ := ⟨rfl, N484, (by omega), Or.inl ⟨⟨own_ns1 hw2 hp44, own_nw hp27b⟩, (Or.inr (Or.inr (Or.inr (Or.inr (Or.inl ⟨nr, na, nb, va, vb, lr, sr, P0, P1, P2, P3, P4, P5, P6, P7, P8, P9, P10, P11, P12, P13, P14, P15, P16, P17, P18, P19, hw0, hw1, hw2, hw3, by omega, by omega, by omega, by omega, by omega, by omega, by omega, by omega, by omega, by omega⟩)))))⟩⟩
          exact own_retV X484 hx hlk hrt (hb hby d20_75) e484 hq486 (by decide) (by decide)
      · refine own_iY 52 X483 hx (hb hby d20_30) rfl ((if0 _ _).trans (teq (by decide : ((0 : Int32) = (0 : Int32)))).1) (by decide) (by decide) ?_
        refine own_ru 54 [(.ref nb)] X483 hx hby e20_52_1 rfl rfl ?_
        refine own_st 57 [] (fun t k => XS.ifnullNo X483.here hx rfl (hb hby d20_54) rfl k) ?_
        refine own_ru 61 [(.long (own_start lv q)), (.int lv), (.ref nb)] X483 hx hby e20_57_3 rfl rfl ?_
        refine own_cR X483 hx hZ hown (wd68 hw) (wd69 hw) (wd70 hw) (wd40 hw) (by decide) (wd71 hw) (wd41 hw) (rm14 l Z a0 hw [] nb lv (own_start lv q) l2 s2 h0 n0 (by omega) P15 P16) e483 P14 [(.int lv), (.long (own_start lv q))] [] 64 0 (hb hby d20_61) rfl (by rw [hml]; rfl) rfl rfl (lenOf pd_7 rfl) rfl (by decide) fun v487 T487 Lc487 X487 hQ487 => ?_
        obtain ⟨hvc487, N487q, e487⟩ := hQ487
        have N487 := Fr.app N483 N487q
        rcases hvc487 with ⟨rfl, hp61⟩ | ⟨rfl, hp61⟩
        · refine own_iN 67 X487 hx (hb hby d20_64) rfl ((if0 _ _).trans (feq (by decide : ¬ ((1 : Int32) = (0 : Int32)))).1) rfl ?_
          refine own_ru 69 [(.ref nb)] X487 hx hby e20_67_1 rfl rfl ?_
          refine own_gR X487 hx hZ hown (wd105 hw) Via.refl e487 P19 72 rfl (hb hby d20_69) rfl fun T488 X488 e488 => ?_
          refine own_st 76 [] (fun t k => XS.ifnonnullYes X488.here hx rfl (pc0 := 72) (pc' := 76) rfl (hb hby d20_72) rfl (by decide) (by decide) k) ?_
          refine own_ru 79 [.null, (.ref nb)] X488 hx hby e20_76_2 rfl rfl ?_
          refine own_pR X488 hx hZ hown (wd105 hw) e488 P19 P14 (wd51 hw) (wd40 hw) (ty := (.object "java/lang/Object")) (by decide) rfl rfl 82 rfl (hb hby d20_79) rfl fun T489 h489 X489 e489 W489 => ?_
          have F489 := Fld.same W489 P19
          have z489 := W489.size
          have N489 := Fr.snoc X489 N487 (by omega)
          refine own_ru 84 [(.ref nb)] X489 hx hby e20_82_1 rfl rfl ?_
          have f490 := (Fld.other W489 P17 (Or.inr (slot_ne (Or.inl (wd95 hw)) (Or.inl (wd51 hw)) (by decide) (t := (.object "com/example/mullion/mullion/service/DyadicTrie$Node")) (t' := (.object "java/lang/Object")) (by decide) (by decide))))
          refine own_gR X489 hx hZ hown (wd106 hw) Via.refl e489 f490 87 rfl (hb hby d20_84) rfl fun T491 X491 e491 => ?_
          refine own_st 99 [] (fun t k => XS.ifnullYes X491.here hx rfl (pc0 := 87) (pc' := 99) rfl (hb hby d20_87) rfl (by decide) (by decide) k) ?_
          refine own_ru 101 [(.ref nb)] X491 hx hby e20_99_1 rfl rfl ?_
          have f492 := (Fld.other W489 P18 (Or.inr (slot_ne (Or.inl (wd93 hw)) (Or.inl (wd51 hw)) (by decide) (t := (.object "com/example/mullion/mullion/service/DyadicTrie$Node")) (t' := (.object "java/lang/Object")) (by decide) (by decide))))
          have f494 := (Exa.wr W489 P14)
          refine own_cR X491 hx hZ hown (wd107 hw) (wd108 hw) (wd109 hw) (wd40 hw) (by decide) (wd110 hw) (wd41 hw) (rm22h l Z a0 hw [] nb .null h489 n0 (by omega) f490 f492 rfl) e491 f494 [] [] 104 0 (hb hby d20_101) rfl (by rw [hml]; rfl) rfl rfl (lenOf pd_11 rfl) rfl (by decide) fun v493 T493 Lc493 X493 hQ493 => ?_
          obtain ⟨rfl, N493q, e493⟩ := hQ493
          have N493 := Fr.app N489 N493q
          refine own_rl 112 #[.val (.ref tt), .val (.int lv), .val (.int q), .val (.long (own_start lv q)), .second, .val .null, .val (.ref nr), .val (.ref nb), .val .null] [.null, (.long (own_start lv q)), (.ref nr), (.ref tt)] X493 hx hby e20_104_5 rfl rfl ?_
          have f495 := (Exa.wr W489 P2)
          have f496 := (Fld.other W489 P3 (Or.inl (own_ne (by omega))))
          have f497 := (Fld.other W489 P4 (Or.inl (own_ne (by omega))))
          have f498 := (Fld.other W489 P7 (Or.inl (own_ne (by omega))))
          have f499 := (Fld.other W489 P5 (Or.inl (own_ne (by omega))))
          have f500 := (Fld.other W489 P6 (Or.inl (own_ne (by omega))))
          have f502 := (Exa.wr W489 P0)
          refine own_cG X493 hx hZ hown (wd52 hw) (wd53 hw) (own_selPriv (mvT hZ (wd1 hw)) (Cond.privateMethod_at (mvP hZ (wd54 hw) (args := #[]))) (mvT hZ (wd53 hw)) (by decide)) (wd54 hw) (by decide) (wd55 hw) (wd2 hw) (rm10p l Z a0 hw [] tt nr (own_start lv q) (.null) lr sr .null (.ref na) (.ref nb) h489 n0 (by omega) f495 f496 f497 f498 f499 f500 (by omega) rfl) e493 f502 [(.ref nr), (.long (own_start lv q)), .null] [] 115 0 (hb hby d20_112) rfl (by rw [hml]; rfl) rfl rfl (lenOf pd_6 rfl) rfl (by decide) fun v501 T501 Lc501 X501 hQ501 => ?_
          obtain ⟨vl_501, vh_501, rfl, N501q, K501, G501_0, G501_1, G501_2, G501_3, G501_4, G501_5, hvd501⟩ := hQ501
          have N501 := Fr.app N493 N501q
          have z501 := K501.1
          have lt501_0 : @LT.lt Nat _ nr (Array.size T501.heap) := G501_0.lt
          rcases hvd501 with ⟨hp112, rfl, rfl⟩ | ⟨hp112, rfl, rfl⟩
          · exact absurd hp112 hp44
          · refine own_ru 117 [.null] X501 hx hby e20_115_1 rfl rfl ?_
            refine own_st 120 [] (fun t k => XS.ifnonnullNo X501.here hx rfl (hb hby d20_117) rfl k) ?_
            as_aux_lemma =>
              refine own_ru 122 [(.ref nr)] X501 hx hby e20_120_1 rfl rfl ?_
              refine own_st 125 [] (fun t k => XS.ifnullNo X501.here hx rfl (hb hby d20_122) rfl k) ?_
              refine own_ru 127 [(.ref nr)] X501 hx hby e20_125_1 rfl rfl ?_
              refine own_gR X501 hx hZ hown (wd105 hw) Via.refl rfl G501_3 130 rfl (hb hby d20_127) rfl fun T503 X503 e503 => ?_
              refine own_st 133 [] (fun t k => XS.ifnonnullNo X503.here hx rfl (hb hby d20_130) rfl k) ?_
              refine own_ru 138 [(.ref nr), .null, (.ref tt)] X503 hx hby e20_133_3 rfl rfl ?_
              refine own_gR X503 hx hZ hown (wd73 hw) Via.refl e503 G501_2 141 rfl (hb hby d20_138) rfl fun T504 X504 e504 => ?_
              refine own_ru 143 [(.ref nr), (.long sr), .null, (.ref tt)] X504 hx hby e20_141_1 rfl rfl ?_
              refine own_cR X504 hx hZ hown (wd107 hw) (wd108 hw) (wd109 hw) (wd40 hw) (by decide) (wd110 hw) (wd41 hw) (rm22l l Z a0 hw [] nr na T501.heap n0 (by omega) G501_4) e504 G501_0 [] [(.long sr), .null, (.ref tt)] 146 4 (hb hby d20_143) rfl (by rw [hml]; rfl) rfl rfl (lenOf pd_11 rfl) rfl (by decide) fun v505 T505 Lc505 X505 hQ505 => ?_
              obtain ⟨rfl, N505q, e505⟩ := hQ505
              have N505 := Fr.app N501 N505q
              have f506 := (Exa.keep f502 K501)
              have f507 := ((Fld.other W489 P1 (Or.inl (own_ne (by omega)))).keep K501 (own_nS (by omega) nin0))
              refine own_cG X505 hx hZ hown (wd52 hw) (wd53 hw) (own_selPriv (mvT hZ (wd1 hw)) (Cond.privateMethod_at (mvP hZ (wd54 hw) (args := #[]))) (mvT hZ (wd53 hw)) (by decide)) (wd54 hw) (by decide) (wd55 hw) (wd2 hw) (rm10n l Z a0 hw [] tt sr (.ref na) (.ref nr) T501.heap n0 (by omega) f506 f507 (by omega) rfl) e505 f506 [.null, (.long sr), (.ref na)] [] 149 0 (hb hby d20_146) rfl (by rw [hml]; rfl) rfl rfl (lenOf pd_6 rfl) rfl (by decide) fun v508 T508 Lc508 X508 hQ508 => ?_
              obtain ⟨rfl, N508q, K508, G508_0, G508_1⟩ := hQ508
              have N508 := Fr.app N505 N508q
              have z508 := K508.1
              have lt508_0 : @LT.lt Nat _ tt (Array.size T508.heap) := G508_0.lt
              have f510 := (Exa.keep (Exa.keep (Exa.wr W489 P8) K501) K508)
              have f511 := (((Fld.other W489 P9 (Or.inl (own_ne (by omega)))).keep K501 (own_nS (by omega) nin0)).keep K508 (own_nS (by omega) nin0))
              have f512 := (((Fld.other W489 P10 (Or.inl (own_ne (by omega)))).keep K501 (own_nS (by omega) nin0)).keep K508 (own_nS (by omega) nin0))
              have f513 := (((Fld.other W489 P11 (Or.inl (own_ne (by omega)))).keep K501 (own_nS (by omega) nin0)).keep K508 (own_nS (by omega) nin0))
              have f514 := (((Fld.other W489 P12 (Or.inl (own_ne (by omega)))).keep K501 (own_nS (by omega) nin0)).keep K508 (own_nS (by omega) nin0))
              have f515 := (((Fld.other W489 P13 (Or.inl (own_ne (by omega)))).keep K501 (own_nS (by omega) nin0)).keep K508 (own_nS (by omega) nin0))
              have hq509 : Q20f Z tt lv q l1 s1 l2 s2 nr na nb va vb lr sr h0 n0 none T508.heap _ := ⟨rfl, N508, (by omega), Or.inr (Or.inr ⟨⟨own_ns1 hw2 hp44, hp61⟩, ⟨na, va, G508_0, G508_1, f510, f511, f512, f513, f514, f515, by omega, by omega, by omega⟩⟩)⟩
              exact own_retV X508 hx hlk hrt (hb hby d20_149) rfl hq509 (by decide) (by decide)
        · refine own_iY 75 X487 hx (hb hby d20_64) rfl ((if0 _ _).trans (teq (by decide : ((0 : Int32) = (0 : Int32)))).1) (by decide) (by decide) ?_
          have hq516 : Q20f Z tt lv q l1 s1 l2 s2 nr na nb va vb lr sr h0 n0 none h0 _ := ⟨rfl, N487, (by omega), Or.inl ⟨⟨own_ns1 hw2 hp44, hp61⟩, (Or.inr (Or.inr (Or.inr (Or.inr (Or.inl ⟨nr, na, nb, va, vb, lr, sr, P0, P1, P2, P3, P4, P5, P6, P7, P8, P9, P10, P11, P12, P13, P14, P15, P16, P17, P18, P19, hw0, hw1, hw2, hw3, by omega, by omega, by omega, by omega, by omega, by omega, by omega, by omega, by omega, by omega⟩)))))⟩⟩
          exact own_retV X487 hx hlk hrt (hb hby d20_75) e487 hq516 (by decide) (by decide)
  · refine own_iY 52 X447 hx (hb hby d20_30) rfl ((if0 _ _).trans (teq (by decide : ((0 : Int32) = (0 : Int32)))).1) (by decide) (by decide) ?_
    refine own_ru 54 [(.ref nr)] X447 hx hby e20_52_1 rfl rfl ?_
    refine own_st 57 [] (fun t k => XS.ifnullNo X447.here hx rfl (hb hby d20_54) rfl k) ?_
    refine own_ru 61 [(.long (own_start lv q)), (.int lv), (.ref nr)] X447 hx hby e20_57_3 rfl rfl ?_
    refine own_cR X447 hx hZ hown (wd68 hw) (wd69 hw) (wd70 hw) (wd40 hw) (by decide) (wd71 hw) (wd41 hw) (rm14 l Z a0 hw [] nr lv (own_start lv q) lr sr h0 n0 (by omega) P3 P4) e447 P2 [(.int lv), (.long (own_start lv q))] [] 64 0 (hb hby d20_61) rfl (by rw [hml]; rfl) rfl rfl (lenOf pd_7 rfl) rfl (by decide) fun v517 T517 Lc517 X517 hQ517 => ?_
    obtain ⟨hvc517, N517q, e517⟩ := hQ517
    have N517 := Fr.app N447 N517q
    rcases hvc517 with ⟨rfl, hp61⟩ | ⟨rfl, hp61⟩
    · refine own_iN 67 X517 hx (hb hby d20_64) rfl ((if0 _ _).trans (feq (by decide : ¬ ((1 : Int32) = (0 : Int32)))).1) rfl ?_
      refine own_ru 69 [(.ref nr)] X517 hx hby e20_67_1 rfl rfl ?_
      refine own_gR X517 hx hZ hown (wd105 hw) Via.refl e517 P7 72 rfl (hb hby d20_69) rfl fun T518 X518 e518 => ?_
      refine own_st 75 [] (fun t k => XS.ifnonnullNo X518.here hx rfl (hb hby d20_72) rfl k) ?_
      have hq519 : Q20f Z tt lv q l1 s1 l2 s2 nr na nb va vb lr sr h0 n0 none h0 _ := ⟨rfl, N517, (by omega), Or.inl ⟨⟨own_nc hw0 hp27, own_nc hw1 hp27⟩, (Or.inr (Or.inr (Or.inr (Or.inr (Or.inl ⟨nr, na, nb, va, vb, lr, sr, P0, P1, P2, P3, P4, P5, P6, P7, P8, P9, P10, P11, P12, P13, P14, P15, P16, P17, P18, P19, hw0, hw1, hw2, hw3, by omega, by omega, by omega, by omega, by omega, by omega, by omega, by omega, by omega, by omega⟩)))))⟩⟩
      exact own_retV X518 hx hlk hrt (hb hby d20_75) e518 hq519 (by decide) (by decide)
    · refine own_iY 75 X517 hx (hb hby d20_64) rfl ((if0 _ _).trans (teq (by decide : ((0 : Int32) = (0 : Int32)))).1) (by decide) (by decide) ?_
      have hq520 : Q20f Z tt lv q l1 s1 l2 s2 nr na nb va vb lr sr h0 n0 none h0 _ := ⟨rfl, N517, (by omega), Or.inl ⟨⟨own_nc hw0 hp27, own_nc hw1 hp27⟩, (Or.inr (Or.inr (Or.inr (Or.inr (Or.inl ⟨nr, na, nb, va, vb, lr, sr, P0, P1, P2, P3, P4, P5, P6, P7, P8, P9, P10, P11, P12, P13, P14, P15, P16, P17, P18, P19, hw0, hw1, hw2, hw3, by omega, by omega, by omega, by omega, by omega, by omega, by omega, by omega, by omega, by omega⟩)))))⟩⟩
      exact own_retV X517 hx hlk hrt (hb hby d20_75) e517 hq520 (by decide) (by decide)
def Q20 (Z : State) (tt : Addr) (lv : Int32) (q : Int32) (l1 : Int32) (s1 : Int64) (l2 : Int32) (s2 : Int64) (pa : Prop) (pb : Prop) (h0 : Heap) (n0 : Nat) (v : Option Value) (h : Heap) (L : List Loc) : Prop := v = none ∧ Fr n0 L ∧ h0.size ≤ h.size ∧ own_Inv Z h n0 tt l1 s1 l2 s2 (pa ∧ ¬ (l1 = lv ∧ s1 = (own_start lv q))) (pb ∧ ¬ (l2 = lv ∧ s2 = (own_start lv q)))
set_option maxRecDepth 65536 in
set_option maxHeartbeats 40000000 in
theorem rm20 (l : Launch) (Z : State) (a0 : Array Value) (hw : OW a0 Z) (ws : List Jvm.Cond) (tt : Addr) (lv : Int32) (q : Int32) (l1 : Int32) (s1 : Int64) (l2 : Int32) (s2 : Int64) (pa : Prop) (pb : Prop) (h0 : Heap) (n0 : Nat) (Z0 : n0 ≤ h0.size) (P0 : own_Inv Z h0 n0 tt l1 s1 l2 s2 pa pb) :
    own_Met l my20 prog_41_method_7_code 9 none ws (own_rm 4 0 0 80) #[(.ref tt), (.int lv), (.int q)] Z h0 (Q20 Z tt lv q l1 s1 l2 s2 pa pb h0 n0) 0 0 := by
  rcases P0 with ⟨ha, hb, H⟩ | ⟨ha, hb, H⟩ | ⟨ha, hb, H⟩ | ⟨ha, hb, H⟩
  · rcases H with H | H | H | H | H | H
    · obtain ⟨np, nc, vp, vc, f0, f1, f2, f3, f4, f5, f6, f7, f8, f9, f10, f11, f12, f13, w0, w1, o0, o1, o2, o3, o4, o5⟩ := H
      exact own_mono (rm20nl l Z a0 hw ws tt lv q l1 s1 l2 s2 np nc vp vc h0 n0 Z0 f0 f1 f2 f3 f4 f5 f6 f7 f8 f9 f10 f11 f12 f13 o0 o1 o2 w0 w1 o3 o4 o5) (fun v h L z => ⟨z.1, z.2.1, z.2.2.1, own_R2inv ha hb z.2.2.2⟩)
    · obtain ⟨np, nc, vp, vc, f0, f1, f2, f3, f4, f5, f6, f7, f8, f9, f10, f11, f12, f13, w0, w1, o0, o1, o2, o3, o4, o5⟩ := H
      exact own_mono (rm20nh l Z a0 hw ws tt lv q l1 s1 l2 s2 np nc vp vc h0 n0 Z0 f0 f1 f2 f3 f4 f5 f6 f7 f8 f9 f10 f11 f12 f13 o0 o1 o2 w0 w1 o3 o4 o5) (fun v h L z => ⟨z.1, z.2.1, z.2.2.1, own_R2inv ha hb z.2.2.2⟩)
    · obtain ⟨np, nc, vp, vc, f0, f1, f2, f3, f4, f5, f6, f7, f8, f9, f10, f11, f12, f13, w0, w1, o0, o1, o2, o3, o4, o5⟩ := H
      exact own_mono (rm20nl l Z a0 hw ws tt lv q l2 s2 l1 s1 np nc vp vc h0 n0 Z0 f0 f1 f2 f3 f4 f5 f6 f7 f8 f9 f10 f11 f12 f13 o0 o1 o2 w0 w1 o3 o4 o5) (fun v h L z => ⟨z.1, z.2.1, z.2.2.1, own_R2swap ha hb z.2.2.2⟩)
    · obtain ⟨np, nc, vp, vc, f0, f1, f2, f3, f4, f5, f6, f7, f8, f9, f10, f11, f12, f13, w0, w1, o0, o1, o2, o3, o4, o5⟩ := H
      exact own_mono (rm20nh l Z a0 hw ws tt lv q l2 s2 l1 s1 np nc vp vc h0 n0 Z0 f0 f1 f2 f3 f4 f5 f6 f7 f8 f9 f10 f11 f12 f13 o0 o1 o2 w0 w1 o3 o4 o5) (fun v h L z => ⟨z.1, z.2.1, z.2.2.1, own_R2swap ha hb z.2.2.2⟩)
    · obtain ⟨nr, na, nb, va, vb, lr, sr, f0, f1, f2, f3, f4, f5, f6, f7, f8, f9, f10, f11, f12, f13, f14, f15, f16, f17, f18, f19, w0, w1, w2, w3, o0, o1, o2, o3, o4, o5, o6, o7, o8, o9⟩ := H
      exact own_mono (rm20f l Z a0 hw ws tt lv q l1 s1 l2 s2 nr na nb va vb lr sr h0 n0 Z0 f0 f1 f2 f3 f4 f5 f6 f7 f8 f9 f10 f11 f12 f13 f14 f15 f16 f17 f18 f19 o0 o1 o2 o3 w0 w1 w2 w3 o4 o5 o6 o7 o8 o9) (fun v h L z => ⟨z.1, z.2.1, z.2.2.1, own_R2inv ha hb z.2.2.2⟩)
    · obtain ⟨nr, na, nb, va, vb, lr, sr, f0, f1, f2, f3, f4, f5, f6, f7, f8, f9, f10, f11, f12, f13, f14, f15, f16, f17, f18, f19, w0, w1, w2, w3, o0, o1, o2, o3, o4, o5, o6, o7, o8, o9⟩ := H
      exact own_mono (rm20f l Z a0 hw ws tt lv q l2 s2 l1 s1 nr na nb va vb lr sr h0 n0 Z0 f0 f1 f2 f3 f4 f5 f6 f7 f8 f9 f10 f11 f12 f13 f14 f15 f16 f17 f18 f19 o0 o1 o2 o3 w0 w1 w2 w3 o4 o5 o6 o7 o8 o9) (fun v h L z => ⟨z.1, z.2.1, z.2.2.1, own_R2swap ha hb z.2.2.2⟩)
  · obtain ⟨na, va, f0, f1, f2, f3, f4, f5, f6, f7, o0, o1, o2⟩ := H
    exact own_mono (rm20l l Z a0 hw ws tt lv q l1 s1 na va h0 n0 Z0 f0 f1 f2 f3 f4 f5 f6 f7 o0 o1  o2) (fun v h L z => ⟨z.1, z.2.1, z.2.2.1, own_R1a ha hb z.2.2.2⟩)
  · obtain ⟨na, va, f0, f1, f2, f3, f4, f5, f6, f7, o0, o1, o2⟩ := H
    exact own_mono (rm20l l Z a0 hw ws tt lv q l2 s2 na va h0 n0 Z0 f0 f1 f2 f3 f4 f5 f6 f7 o0 o1  o2) (fun v h L z => ⟨z.1, z.2.1, z.2.2.1, own_R1b ha hb z.2.2.2⟩)
  · exact own_mono (rm20e l Z a0 hw ws tt lv q h0 n0 Z0 H.1 H.2.1 H.2.2) (fun v h L z => ⟨z.1, z.2.1, z.2.2.1, own_R0 ha hb z.2.2.2⟩)
theorem own_n01 {z : Int32} {P : Prop} (H : own_b01 z P) (h : z = 0) : ¬ P := by
  rcases H with H | H
  · rw [H.1] at h; exact absurd h (by decide)
  · exact H.2
theorem own_y01 {z : Int32} {P : Prop} (H : own_b01 z P) (h : ¬ z = 0) : P := by
  rcases H with H | H
  · exact H.2
  · exact absurd H.1 h
theorem own_ee0 {z : Int32} {P Q : Prop} (H : own_b01 z P) (h : z = 0) : own_b01 0 (P ∧ Q) := Or.inr ⟨rfl, fun q => own_n01 H h q.1⟩
theorem own_ee1 {z : Int32} {P Q R : Prop} (H : own_b01 z P) (h : ¬ z = 0) (r : R) : own_b01 1 (P ∧ (R ∨ Q)) := Or.inl ⟨rfl, own_y01 H h, Or.inl r⟩
theorem own_ee2 {z : Int32} {P Q R : Prop} (H : own_b01 z Q) (r : ¬ R) (h : z = 0) : own_b01 0 (P ∧ (R ∨ Q)) := Or.inr ⟨rfl, fun q => q.2.elim r (own_n01 H h)⟩
theorem own_ee3 {z y : Int32} {P Q R : Prop} (H : own_b01 z P) (G : own_b01 y Q) (h : ¬ z = 0) (g : ¬ y = 0) : own_b01 1 (P ∧ (R ∨ Q)) := Or.inl ⟨rfl, own_y01 H h, Or.inr (own_y01 G g)⟩

theorem e0_0_4 : own_dec code 0 [(.iload_n 0, 1), (.bipush 63, 2), (.iand, 1), (.bipush 33, 2)] = true := by decide +kernel
theorem e0_7_7 : own_dec code 7 [(.istore 4, 2), (.iload_n 0, 1), (.bipush 6, 2), (.iushr, 1), (.bipush 63, 2), (.iand, 1), (.bipush 33, 2)] = true := by decide +kernel
theorem e0_19_7 : own_dec code 19 [(.istore 5, 2), (.iload_n 0, 1), (.bipush 12, 2), (.iushr, 1), (.bipush 63, 2), (.iand, 1), (.bipush 33, 2)] = true := by decide +kernel
theorem e0_31_1 : own_dec code 31 [(.istore 6, 2)] = true := by decide +kernel
theorem e0_33_5 : own_dec code 33 [(.iload_n 0, 1), (.bipush 18, 2), (.iushr, 1), (.iconst 1, 1), (.iand, 1)] = true := by decide +kernel
theorem e0_59_6 : own_dec code 59 [(.istore 7, 2), (.iload_n 0, 1), (.bipush 19, 2), (.iushr, 1), (.iconst 3, 1), (.iand, 1)] = true := by decide +kernel
theorem e0_67_6 : own_dec code 67 [(.istore 8, 2), (.iload_n 0, 1), (.bipush 21, 2), (.iushr, 1), (.iconst 3, 1), (.iand, 1)] = true := by decide +kernel
theorem e0_75_3 : own_dec code 75 [(.istore 9, 2), (.iload 8, 2), (.iconst 1, 1)] = true := by decide +kernel
theorem e0_101_3 : own_dec code 101 [(.istore 10, 2), (.iload 8, 2), (.iconst 1, 1)] = true := by decide +kernel
theorem e0_124_3 : own_dec code 124 [(.istore 11, 2), (.iload 9, 2), (.iconst 1, 1)] = true := by decide +kernel
theorem e0_150_3 : own_dec code 150 [(.istore 12, 2), (.iload 9, 2), (.iconst 1, 1)] = true := by decide +kernel
theorem e0_173_1 : own_dec code 173 [(.istore 13, 2)] = true := by decide +kernel
theorem e0_178_1 : own_dec code 178 [(.dup, 1)] = true := by decide +kernel
theorem e0_182_2 : own_dec code 182 [(.astore 14, 2), (.aload 14, 2)] = true := by decide +kernel
theorem e0_189_5 : own_dec code 189 [(.istore 15, 2), (.aload 14, 2), (.iload 4, 2), (.iload_n 1, 1), (.iconst 1, 1)] = true := by decide +kernel
theorem e0_203_1 : own_dec code 203 [(.iload 15, 2)] = true := by decide +kernel
theorem e0_208_1 : own_dec code 208 [(.aload 14, 2)] = true := by decide +kernel
theorem e0_216_1 : own_dec code 216 [(.iconst 1, 1)] = true := by decide +kernel
theorem e0_221_2 : own_dec code 221 [(.istore 15, 2), (.iload 7, 2)] = true := by decide +kernel
theorem e0_240_1 : own_dec code 240 [(.iload 8, 2)] = true := by decide +kernel
theorem e0_254_1 : own_dec code 254 [(.iload 9, 2)] = true := by decide +kernel
theorem e0_268_1 : own_dec code 268 [(.iload 8, 2)] = true := by decide +kernel
theorem e0_309_2 : own_dec code 309 [(.istore 16, 2), (.iload 8, 2)] = true := by decide +kernel
theorem e0_352_2 : own_dec code 352 [(.istore 17, 2), (.iload 16, 2)] = true := by decide +kernel
theorem e0_374_2 : own_dec code 374 [(.istore 18, 2), (.iload 15, 2)] = true := by decide +kernel
theorem e0_381_1 : own_dec code 381 [(.aload 14, 2)] = true := by decide +kernel
theorem e0_386_1 : own_dec code 386 [(.iload 18, 2)] = true := by decide +kernel
theorem e0_391_1 : own_dec code 391 [(.iconst 1, 1)] = true := by decide +kernel
theorem e0_373_1 : own_dec code 373 [(.iconst 0, 1)] = true := by decide +kernel
theorem e0_359_1 : own_dec code 359 [(.iload 7, 2)] = true := by decide +kernel
theorem e0_369_1 : own_dec code 369 [(.iconst 1, 1)] = true := by decide +kernel
theorem e0_364_1 : own_dec code 364 [(.iload 17, 2)] = true := by decide +kernel
theorem e0_329_1 : own_dec code 329 [(.iload 9, 2)] = true := by decide +kernel
theorem e0_351_1 : own_dec code 351 [(.iconst 0, 1)] = true := by decide +kernel
theorem e0_334_4 : own_dec code 334 [(.iload 12, 2), (.iload 13, 2), (.iload 5, 2), (.iload_n 2, 1)] = true := by decide +kernel
theorem e0_347_1 : own_dec code 347 [(.iconst 1, 1)] = true := by decide +kernel
theorem e0_316_4 : own_dec code 316 [(.iload 10, 2), (.iload 11, 2), (.iload 5, 2), (.iload_n 2, 1)] = true := by decide +kernel
theorem e0_286_1 : own_dec code 286 [(.iload 9, 2)] = true := by decide +kernel
theorem e0_308_1 : own_dec code 308 [(.iconst 0, 1)] = true := by decide +kernel
theorem e0_291_4 : own_dec code 291 [(.iload 12, 2), (.iload 13, 2), (.iload 4, 2), (.iload_n 1, 1)] = true := by decide +kernel
theorem e0_304_1 : own_dec code 304 [(.iconst 1, 1)] = true := by decide +kernel
theorem e0_273_4 : own_dec code 273 [(.iload 10, 2), (.iload 11, 2), (.iload 4, 2), (.iload_n 1, 1)] = true := by decide +kernel
theorem e0_259_3 : own_dec code 259 [(.aload 14, 2), (.iload 12, 2), (.iload 13, 2)] = true := by decide +kernel
theorem e0_245_3 : own_dec code 245 [(.aload 14, 2), (.iload 10, 2), (.iload 11, 2)] = true := by decide +kernel
theorem e0_228_4 : own_dec code 228 [(.aload 14, 2), (.iload 5, 2), (.iload_n 2, 1), (.iconst 2, 1)] = true := by decide +kernel
theorem e0_158_1 : own_dec code 158 [(.iload_n 1, 1)] = true := by decide +kernel
theorem e0_162_2 : own_dec code 162 [(.iload 9, 2), (.iconst 2, 1)] = true := by decide +kernel
theorem e0_168_1 : own_dec code 168 [(.iload_n 2, 1)] = true := by decide +kernel
theorem e0_172_1 : own_dec code 172 [(.iload_n 3, 1)] = true := by decide +kernel
theorem e0_132_1 : own_dec code 132 [(.iload 4, 2)] = true := by decide +kernel
theorem e0_137_2 : own_dec code 137 [(.iload 9, 2), (.iconst 2, 1)] = true := by decide +kernel
theorem e0_143_1 : own_dec code 143 [(.iload 5, 2)] = true := by decide +kernel
theorem e0_148_1 : own_dec code 148 [(.iload 6, 2)] = true := by decide +kernel
theorem e0_109_1 : own_dec code 109 [(.iload_n 1, 1)] = true := by decide +kernel
theorem e0_113_2 : own_dec code 113 [(.iload 8, 2), (.iconst 2, 1)] = true := by decide +kernel
theorem e0_119_1 : own_dec code 119 [(.iload_n 2, 1)] = true := by decide +kernel
theorem e0_123_1 : own_dec code 123 [(.iload_n 3, 1)] = true := by decide +kernel
theorem e0_83_1 : own_dec code 83 [(.iload 4, 2)] = true := by decide +kernel
theorem e0_88_2 : own_dec code 88 [(.iload 8, 2), (.iconst 2, 1)] = true := by decide +kernel
theorem e0_94_1 : own_dec code 94 [(.iload 5, 2)] = true := by decide +kernel
theorem e0_99_1 : own_dec code 99 [(.iload 6, 2)] = true := by decide +kernel
theorem e0_58_1 : own_dec code 58 [(.iconst 0, 1)] = true := by decide +kernel
theorem e0_42_4 : own_dec code 42 [(.iload 5, 2), (.iload_n 2, 1), (.iload 4, 2), (.iload_n 1, 1)] = true := by decide +kernel
theorem e0_54_1 : own_dec code 54 [(.iconst 1, 1)] = true := by decide +kernel
theorem pd_12 : parseMethodDescriptor "()V" = some ⟨[], none⟩ := by decide +kernel
theorem pd_13 : parseMethodDescriptor "()Z" = some ⟨[], some .boolean⟩ := by decide +kernel
theorem pd_14 : parseMethodDescriptor "(I)Ljava/lang/Integer;" = some ⟨[.int], some (.object "java/lang/Integer")⟩ := by decide +kernel
theorem pd_15 : parseMethodDescriptor "(IILjava/lang/Object;)V" = some ⟨[.int, .int, (.object "java/lang/Object")], none⟩ := by decide +kernel
theorem pd_16 : parseMethodDescriptor "(IIII)Z" = some ⟨[.int, .int, .int, .int], some .boolean⟩ := by decide +kernel
theorem pd_17 : parseMethodDescriptor "(II)V" = some ⟨[.int, .int], none⟩ := by decide +kernel
def Q0 (Z : State) (o_cache : Addr) (ccl : Cell) (i0 : Int32) (i1 : Int32) (i2 : Int32) (i3 : Int32) (h0 : Heap) (n0 : Nat) (v : Option Value) (h : Heap) (L : List Loc) : Prop := v = some (.int (1 : Int32)) ∧ Fr n0 L
set_option maxRecDepth 65536 in
set_option maxHeartbeats 40000000 in
theorem rm0 (l : Launch) (Z : State) (a0 : Array Value) (hw : OW a0 Z) (ws : List Jvm.Cond) (o_cache : Addr) (ccl : Cell) (i0 : Int32) (i1 : Int32) (i2 : Int32) (i3 : Int32) (h0 : Heap) (n0 : Nat) (Z0 : n0 ≤ h0.size) (OLD : Old Z n0 h0) (A : Amb Z o_cache ccl) :
    own_Met l x code maxLocals ret ws room_1 #[(.int i0), (.int i1), (.int i2), (.int i3)] Z h0 (Q0 Z o_cache ccl i0 i1 i2 i3 h0 n0) 16 128 := by
  refine own_body (plainFor_of_name pn_2) (fun m => by first | (simp [entryFrame, mkF, argsToLocals, Value.category, maxLocals]; done) | rfl) (Ls := #[.val (.int i0), .val (.int i1), .val (.int i2), .val (.int i3), .unset, .unset, .unset, .unset, .unset, .unset, .unset, .unset, .unset, .unset, .unset, .unset, .unset, .unset, .unset]) fun p e s m below meth c s₁ X0 hx hby hml hZ e0 hown hnm hlk hrt => ?_
  have N0 := Fr.nil n0
  refine own_ru 6 [(.int (33 : Int32)), (.int (i0 &&& (63 : Int32)))] X0 hx hby e0_0_4 rfl rfl ?_
  refine own_st 7 [(.int ((i0 &&& (63 : Int32)) - ((i0 &&& (63 : Int32)) / (33 : Int32)) * (33 : Int32)))] (fun t k => XS.irem X0.here hx rfl (hb hby at_6) rfl (by decide) k) ?_
  obtain ⟨v7, hv7⟩ : ∃ z : Int32, z = ((i0 &&& (63 : Int32)) - ((i0 &&& (63 : Int32)) / (33 : Int32)) * (33 : Int32)) := ⟨_, rfl⟩
  rw [← hv7]
  refine own_rl 18 #[.val (.int i0), .val (.int i1), .val (.int i2), .val (.int i3), .val (.int v7), .unset, .unset, .unset, .unset, .unset, .unset, .unset, .unset, .unset, .unset, .unset, .unset, .unset, .unset] [(.int (33 : Int32)), (.int (((i0.toUInt32 >>> ((6 : Int32) &&& 31).toUInt32).toInt32) &&& (63 : Int32)))] X0 hx hby e0_7_7 rfl rfl ?_
  refine own_st 19 [(.int ((((i0.toUInt32 >>> ((6 : Int32) &&& 31).toUInt32).toInt32) &&& (63 : Int32)) - ((((i0.toUInt32 >>> ((6 : Int32) &&& 31).toUInt32).toInt32) &&& (63 : Int32)) / (33 : Int32)) * (33 : Int32)))] (fun t k => XS.irem X0.here hx rfl (hb hby at_18) rfl (by decide) k) ?_
  obtain ⟨v19, hv19⟩ : ∃ z : Int32, z = ((((i0.toUInt32 >>> ((6 : Int32) &&& 31).toUInt32).toInt32) &&& (63 : Int32)) - ((((i0.toUInt32 >>> ((6 : Int32) &&& 31).toUInt32).toInt32) &&& (63 : Int32)) / (33 : Int32)) * (33 : Int32)) := ⟨_, rfl⟩
  rw [← hv19]
  refine own_rl 30 #[.val (.int i0), .val (.int i1), .val (.int i2), .val (.int i3), .val (.int v7), .val (.int v19), .unset, .unset, .unset, .unset, .unset, .unset, .unset, .unset, .unset, .unset, .unset, .unset, .unset] [(.int (33 : Int32)), (.int (((i0.toUInt32 >>> ((12 : Int32) &&& 31).toUInt32).toInt32) &&& (63 : Int32)))] X0 hx hby e0_19_7 rfl rfl ?_
  refine own_st 31 [(.int ((((i0.toUInt32 >>> ((12 : Int32) &&& 31).toUInt32).toInt32) &&& (63 : Int32)) - ((((i0.toUInt32 >>> ((12 : Int32) &&& 31).toUInt32).toInt32) &&& (63 : Int32)) / (33 : Int32)) * (33 : Int32)))] (fun t k => XS.irem X0.here hx rfl (hb hby at_30) rfl (by decide) k) ?_
  obtain ⟨v31, hv31⟩ : ∃ z : Int32, z = ((((i0.toUInt32 >>> ((12 : Int32) &&& 31).toUInt32).toInt32) &&& (63 : Int32)) - ((((i0.toUInt32 >>> ((12 : Int32) &&& 31).toUInt32).toInt32) &&& (63 : Int32)) / (33 : Int32)) * (33 : Int32)) := ⟨_, rfl⟩
  rw [← hv31]
  refine own_rl 33 #[.val (.int i0), .val (.int i1), .val (.int i2), .val (.int i3), .val (.int v7), .val (.int v19), .val (.int v31), .unset, .unset, .unset, .unset, .unset, .unset, .unset, .unset, .unset, .unset, .unset, .unset] [] X0 hx hby e0_31_1 rfl rfl ?_
  have al1 := own_al_of (q := i1) (own_r33 hv7)
  have al2 := own_al_of (q := i2) (own_r33 hv19)
  refine own_ru 39 [(.int (((i0.toUInt32 >>> ((18 : Int32) &&& 31).toUInt32).toInt32) &&& (1 : Int32)))] X0 hx hby e0_33_5 rfl rfl ?_
  have J521 : ∀ (TJ521 : State) (LJ521 : List Loc) (hJ521 : Heap) (pB : Int32), Stand p l e room_1 s m #[(.int i0), (.int i1), (.int i2), (.int i3)] below meth c TJ521 LJ521 0 0 → TJ521.heap = hJ521 → Fr n0 LJ521 → h0.size ≤ hJ521.size → Old Z n0 hJ521 → (¬ pB = (0 : Int32) → ¬ (v19 = v7 ∧ own_start v19 i2 = own_start v7 i1)) → own_Fin p.tables e below (own_post (Q0 Z o_cache ccl i0 i1 i2 i3 h0 n0) s 16 128) (TJ521.setTop (mkF m 59 #[.val (.int i0), .val (.int i1), .val (.int i2), .val (.int i3), .val (.int v7), .val (.int v19), .val (.int v31), .unset, .unset, .unset, .unset, .unset, .unset, .unset, .unset, .unset, .unset, .unset, .unset] [(.int pB)])) := by
    as_aux_lemma =>
      intro TJ521 LJ521 hJ521 pB XJ521 eJ521 NJ521 zJ521 FJ521_0 hpB
      refine own_rl 67 #[.val (.int i0), .val (.int i1), .val (.int i2), .val (.int i3), .val (.int v7), .val (.int v19), .val (.int v31), .val (.int pB), .unset, .unset, .unset, .unset, .unset, .unset, .unset, .unset, .unset, .unset, .unset] [(.int (((i0.toUInt32 >>> ((19 : Int32) &&& 31).toUInt32).toInt32) &&& (3 : Int32)))] XJ521 hx hby e0_59_6 rfl rfl ?_
      obtain ⟨v67, hv67⟩ : ∃ z : Int32, z = (((i0.toUInt32 >>> ((19 : Int32) &&& 31).toUInt32).toInt32) &&& (3 : Int32)) := ⟨_, rfl⟩
      rw [← hv67]
      refine own_rl 75 #[.val (.int i0), .val (.int i1), .val (.int i2), .val (.int i3), .val (.int v7), .val (.int v19), .val (.int v31), .val (.int pB), .val (.int v67), .unset, .unset, .unset, .unset, .unset, .unset, .unset, .unset, .unset, .unset] [(.int (((i0.toUInt32 >>> ((21 : Int32) &&& 31).toUInt32).toInt32) &&& (3 : Int32)))] XJ521 hx hby e0_67_6 rfl rfl ?_
      obtain ⟨v75, hv75⟩ : ∃ z : Int32, z = (((i0.toUInt32 >>> ((21 : Int32) &&& 31).toUInt32).toInt32) &&& (3 : Int32)) := ⟨_, rfl⟩
      rw [← hv75]
      refine own_rl 80 #[.val (.int i0), .val (.int i1), .val (.int i2), .val (.int i3), .val (.int v7), .val (.int v19), .val (.int v31), .val (.int pB), .val (.int v67), .val (.int v75), .unset, .unset, .unset, .unset, .unset, .unset, .unset, .unset, .unset] [(.int (1 : Int32)), (.int v67)] XJ521 hx hby e0_75_3 rfl rfl ?_
      have J522 : ∀ (rl1 : Int32), own_Fin p.tables e below (own_post (Q0 Z o_cache ccl i0 i1 i2 i3 h0 n0) s 16 128) (TJ521.setTop (mkF m 101 #[.val (.int i0), .val (.int i1), .val (.int i2), .val (.int i3), .val (.int v7), .val (.int v19), .val (.int v31), .val (.int pB), .val (.int v67), .val (.int v75), .unset, .unset, .unset, .unset, .unset, .unset, .unset, .unset, .unset] [(.int rl1)])) := by
        as_aux_lemma =>
          intro rl1 
          refine own_rl 106 #[.val (.int i0), .val (.int i1), .val (.int i2), .val (.int i3), .val (.int v7), .val (.int v19), .val (.int v31), .val (.int pB), .val (.int v67), .val (.int v75), .val (.int rl1), .unset, .unset, .unset, .unset, .unset, .unset, .unset, .unset] [(.int (1 : Int32)), (.int v67)] XJ521 hx hby e0_101_3 rfl rfl ?_
          have J523 : ∀ (rc1 : Int32), own_Fin p.tables e below (own_post (Q0 Z o_cache ccl i0 i1 i2 i3 h0 n0) s 16 128) (TJ521.setTop (mkF m 124 #[.val (.int i0), .val (.int i1), .val (.int i2), .val (.int i3), .val (.int v7), .val (.int v19), .val (.int v31), .val (.int pB), .val (.int v67), .val (.int v75), .val (.int rl1), .unset, .unset, .unset, .unset, .unset, .unset, .unset, .unset] [(.int rc1)])) := by
            as_aux_lemma =>
              intro rc1 
              refine own_rl 129 #[.val (.int i0), .val (.int i1), .val (.int i2), .val (.int i3), .val (.int v7), .val (.int v19), .val (.int v31), .val (.int pB), .val (.int v67), .val (.int v75), .val (.int rl1), .val (.int rc1), .unset, .unset, .unset, .unset, .unset, .unset, .unset] [(.int (1 : Int32)), (.int v75)] XJ521 hx hby e0_124_3 rfl rfl ?_
              have J524 : ∀ (rl2 : Int32), own_Fin p.tables e below (own_post (Q0 Z o_cache ccl i0 i1 i2 i3 h0 n0) s 16 128) (TJ521.setTop (mkF m 150 #[.val (.int i0), .val (.int i1), .val (.int i2), .val (.int i3), .val (.int v7), .val (.int v19), .val (.int v31), .val (.int pB), .val (.int v67), .val (.int v75), .val (.int rl1), .val (.int rc1), .unset, .unset, .unset, .unset, .unset, .unset, .unset] [(.int rl2)])) := by
                as_aux_lemma =>
                  intro rl2 
                  refine own_rl 155 #[.val (.int i0), .val (.int i1), .val (.int i2), .val (.int i3), .val (.int v7), .val (.int v19), .val (.int v31), .val (.int pB), .val (.int v67), .val (.int v75), .val (.int rl1), .val (.int rc1), .val (.int rl2), .unset, .unset, .unset, .unset, .unset, .unset] [(.int (1 : Int32)), (.int v75)] XJ521 hx hby e0_150_3 rfl rfl ?_
                  have J525 : ∀ (rc2 : Int32), own_Fin p.tables e below (own_post (Q0 Z o_cache ccl i0 i1 i2 i3 h0 n0) s 16 128) (TJ521.setTop (mkF m 173 #[.val (.int i0), .val (.int i1), .val (.int i2), .val (.int i3), .val (.int v7), .val (.int v19), .val (.int v31), .val (.int pB), .val (.int v67), .val (.int v75), .val (.int rl1), .val (.int rc1), .val (.int rl2), .unset, .unset, .unset, .unset, .unset, .unset] [(.int rc2)])) := by
                    as_aux_lemma =>
                      intro rc2 
                      refine own_rl 175 #[.val (.int i0), .val (.int i1), .val (.int i2), .val (.int i3), .val (.int v7), .val (.int v19), .val (.int v31), .val (.int pB), .val (.int v67), .val (.int v75), .val (.int rl1), .val (.int rc1), .val (.int rl2), .val (.int rc2), .unset, .unset, .unset, .unset, .unset] [] XJ521 hx hby e0_173_1 rfl rfl ?_
                      refine own_nO XJ521 hx hZ hown (wd0 hw) (wd1 hw) (wd2 hw) eJ521 178 (hb hby at_175) rfl (by decide) (by decide) fun T526 h526 b526 g526 X526 e526 E526 A526 D526 UN526 => ?_
                      have ll526 : @LT.lt Nat _ b526 (Array.size h526) := A526.lt
                      have z526 := E526.1
                      have F527 : fl0 Z h526 b526 .null := D526 (Or.inl (wd15 hw)) (ty := (.object "com/example/mullion/mullion/service/DyadicTrie$Node")) (by decide)
                      refine own_ru 179 [(.ref b526), (.ref b526)] X526 hx hby e0_178_1 rfl rfl ?_
                      refine own_cN X526 hx hZ hown rfl (wd3 hw) (wd4 hw) (by decide) (wd5 hw) (wd2 hw) (rm1 l Z a0 hw [] b526 h526 n0 (by omega) ) e526  [] [(.ref b526)] 182 1 (hb hby at_179) rfl (by rw [hml]; rfl) rfl rfl (lenOf pd_12 rfl) rfl (by decide) fun v528 T528 Lc528 X528 hQ528 => ?_
                      obtain ⟨rfl, N528q, e528⟩ := hQ528
                      have N528 := Fr.app NJ521 N528q
                      refine own_rl 186 #[.val (.int i0), .val (.int i1), .val (.int i2), .val (.int i3), .val (.int v7), .val (.int v19), .val (.int v31), .val (.int pB), .val (.int v67), .val (.int v75), .val (.int rl1), .val (.int rc1), .val (.int rl2), .val (.int rc2), .val (.ref b526), .unset, .unset, .unset, .unset] [(.ref b526)] X528 hx hby e0_182_2 rfl rfl ?_
                      refine own_cV X528 hx hZ hown (wd9 hw) (wd10 hw) (notFace_of_selects (args := #[]) (mvT hZ (wd12 hw))) (wd12 hw) (wd11 hw) (by decide) (wd13 hw) (wd2 hw) (rm3n l Z a0 hw [] b526 h526 n0 (by omega) F527) e528 A526 [] [] 189 0 (hb hby at_186) rfl (by rw [hml]; rfl) rfl rfl (lenOf pd_13 rfl) rfl (by decide) fun v529 T529 Lc529 X529 hQ529 => ?_
                      obtain ⟨rfl, N529q, e529⟩ := hQ529
                      have N529 := Fr.app N528 N529q
                      refine own_rl 197 #[.val (.int i0), .val (.int i1), .val (.int i2), .val (.int i3), .val (.int v7), .val (.int v19), .val (.int v31), .val (.int pB), .val (.int v67), .val (.int v75), .val (.int rl1), .val (.int rc1), .val (.int rl2), .val (.int rc2), .val (.ref b526), .val (.int (1 : Int32)), .unset, .unset, .unset] [(.int (1 : Int32)), (.int i1), (.int v7), (.ref b526)] X529 hx hby e0_189_5 rfl rfl ?_
                      have f530 := (FJ521_0.ext E526)
                      refine own_cS X529 hx hZ hown (wd16 hw) (wd17 hw) (by decide) (wd19 hw) (wd18 hw) (rm4v1 l Z a0 hw [] o_cache ccl h526 n0 (by omega) f530 A) e529  [(.int (1 : Int32))] [(.int i1), (.int v7), (.ref b526)] 200 3 (hb hby at_197) rfl (by rw [hml]; rfl) rfl rfl (lenOf pd_14 rfl) rfl (by decide) fun v531 T531 Lc531 X531 hQ531 => ?_
                      obtain ⟨ob_531, rfl, N531q, e531⟩ := hQ531
                      have N531 := Fr.app N529 N531q
                      refine own_cV X531 hx hZ hown (wd23 hw) (wd24 hw) (notFace_of_selects (args := #[]) (mvT hZ (wd26 hw))) (wd26 hw) (wd25 hw) (by decide) (wd27 hw) (wd2 hw) (rm5e l Z a0 hw [] b526 v7 i1 ob_531 h526 n0 (by omega) A526 F527 (by omega)) e531 A526 [(.int v7), (.int i1), (.ref ob_531)] [] 203 0 (hb hby at_200) rfl (by rw [hml]; rfl) rfl rfl (lenOf pd_15 rfl) rfl (by decide) fun v532 T532 Lc532 X532 hQ532 => ?_
                      obtain ⟨nd_532, rfl, N532q, K532, G532_0, G532_1, G532_2, G532_3, G532_4, G532_5, G532_6, G532_7, U532_0⟩ := hQ532
                      have N532 := Fr.app N531 N532q
                      have z532 := K532.1
                      have lt532_0 : @LT.lt Nat _ b526 (Array.size T532.heap) := G532_0.lt
                      have lt532_2 : @LT.lt Nat _ nd_532 (Array.size T532.heap) := G532_2.lt
                      refine own_ru 205 [(.int (1 : Int32))] X532 hx hby e0_203_1 rfl rfl ?_
                      refine own_iN 208 X532 hx (hb hby at_205) rfl ((if0 _ _).trans (feq (by decide : ¬ ((1 : Int32) = (0 : Int32)))).1) rfl ?_
                      refine own_ru 210 [(.ref b526)] X532 hx hby e0_208_1 rfl rfl ?_
                      refine own_cV X532 hx hZ hown (wd9 hw) (wd10 hw) (notFace_of_selects (args := #[]) (mvT hZ (wd12 hw))) (wd12 hw) (wd11 hw) (by decide) (wd13 hw) (wd2 hw) (rm3r l Z a0 hw [] b526 nd_532 T532.heap n0 (by omega) G532_1) rfl G532_0 [] [] 213 0 (hb hby at_210) rfl (by rw [hml]; rfl) rfl rfl (lenOf pd_13 rfl) rfl (by decide) fun v533 T533 Lc533 X533 hQ533 => ?_
                      obtain ⟨rfl, N533q, e533⟩ := hQ533
                      have N533 := Fr.app N532 N533q
                      refine own_iN 216 X533 hx (hb hby at_213) rfl ((if0 _ _).trans (teq (by decide : ((0 : Int32) = (0 : Int32)))).2) rfl ?_
                      refine own_ru 217 [(.int (1 : Int32))] X533 hx hby e0_216_1 rfl rfl ?_
                      refine own_go 221 X533 hx (hb hby at_217) (by decide) (by decide) ?_
                      refine own_ru 225 [(.int pB)] X533 hx hby e0_221_2 rfl rfl ?_
                      have J534 : ∀ (TJ534 : State) (LJ534 : List Loc) (hJ534 : Heap), Stand p l e room_1 s m #[(.int i0), (.int i1), (.int i2), (.int i3)] below meth c TJ534 LJ534 4 16 → TJ534.heap = hJ534 → Fr n0 LJ534 → h0.size ≤ hJ534.size → own_Inv Z hJ534 n0 b526 v7 (own_start v7 i1) v19 (own_start v19 i2) True (¬ pB = (0 : Int32)) → own_Fin p.tables e below (own_post (Q0 Z o_cache ccl i0 i1 i2 i3 h0 n0) s 16 128) (TJ534.setTop (mkF m 240 #[.val (.int i0), .val (.int i1), .val (.int i2), .val (.int i3), .val (.int v7), .val (.int v19), .val (.int v31), .val (.int pB), .val (.int v67), .val (.int v75), .val (.int rl1), .val (.int rc1), .val (.int rl2), .val (.int rc2), .val (.ref b526), .val (.int (1 : Int32)), .unset, .unset, .unset] [])) := by
                        as_aux_lemma =>
                          intro TJ534 LJ534 hJ534  XJ534 eJ534 NJ534 zJ534 FJ534_0
                          refine own_ru 242 [(.int v67)] XJ534 hx hby e0_240_1 rfl rfl ?_
                          have J535 : ∀ (TJ535 : State) (LJ535 : List Loc) (hJ535 : Heap), Stand p l e room_1 s m #[(.int i0), (.int i1), (.int i2), (.int i3)] below meth c TJ535 LJ535 4 16 → TJ535.heap = hJ535 → Fr n0 LJ535 → h0.size ≤ hJ535.size → own_Inv Z hJ535 n0 b526 v7 (own_start v7 i1) v19 (own_start v19 i2) (True ∧ ¬ (¬ v67 = (0 : Int32) ∧ rl1 = v7 ∧ (own_start rl1 rc1) = (own_start v7 i1))) ((¬ pB = (0 : Int32)) ∧ ¬ (¬ v67 = (0 : Int32) ∧ rl1 = v19 ∧ (own_start rl1 rc1) = (own_start v19 i2))) → own_Fin p.tables e below (own_post (Q0 Z o_cache ccl i0 i1 i2 i3 h0 n0) s 16 128) (TJ535.setTop (mkF m 254 #[.val (.int i0), .val (.int i1), .val (.int i2), .val (.int i3), .val (.int v7), .val (.int v19), .val (.int v31), .val (.int pB), .val (.int v67), .val (.int v75), .val (.int rl1), .val (.int rc1), .val (.int rl2), .val (.int rc2), .val (.ref b526), .val (.int (1 : Int32)), .unset, .unset, .unset] [])) := by
                            as_aux_lemma =>
                              intro TJ535 LJ535 hJ535  XJ535 eJ535 NJ535 zJ535 FJ535_0
                              refine own_ru 256 [(.int v75)] XJ535 hx hby e0_254_1 rfl rfl ?_
                              have J536 : ∀ (TJ536 : State) (LJ536 : List Loc) (hJ536 : Heap), Stand p l e room_1 s m #[(.int i0), (.int i1), (.int i2), (.int i3)] below meth c TJ536 LJ536 4 16 → TJ536.heap = hJ536 → Fr n0 LJ536 → h0.size ≤ hJ536.size → own_Inv Z hJ536 n0 b526 v7 (own_start v7 i1) v19 (own_start v19 i2) ((True ∧ ¬ (¬ v67 = (0 : Int32) ∧ rl1 = v7 ∧ (own_start rl1 rc1) = (own_start v7 i1))) ∧ ¬ (¬ v75 = (0 : Int32) ∧ rl2 = v7 ∧ (own_start rl2 rc2) = (own_start v7 i1))) (((¬ pB = (0 : Int32)) ∧ ¬ (¬ v67 = (0 : Int32) ∧ rl1 = v19 ∧ (own_start rl1 rc1) = (own_start v19 i2))) ∧ ¬ (¬ v75 = (0 : Int32) ∧ rl2 = v19 ∧ (own_start rl2 rc2) = (own_start v19 i2))) → own_Fin p.tables e below (own_post (Q0 Z o_cache ccl i0 i1 i2 i3 h0 n0) s 16 128) (TJ536.setTop (mkF m 268 #[.val (.int i0), .val (.int i1), .val (.int i2), .val (.int i3), .val (.int v7), .val (.int v19), .val (.int v31), .val (.int pB), .val (.int v67), .val (.int v75), .val (.int rl1), .val (.int rc1), .val (.int rl2), .val (.int rc2), .val (.ref b526), .val (.int (1 : Int32)), .unset, .unset, .unset] [])) := by
                                as_aux_lemma =>
                                  intro TJ536 LJ536 hJ536  XJ536 eJ536 NJ536 zJ536 FJ536_0
                                  refine own_ru 270 [(.int v67)] XJ536 hx hby e0_268_1 rfl rfl ?_
                                  have J537 : ∀ (TJ537 : State) (LJ537 : List Loc) (hJ537 : Heap) (ag : Int32), Stand p l e room_1 s m #[(.int i0), (.int i1), (.int i2), (.int i3)] below meth c TJ537 LJ537 4 16 → TJ537.heap = hJ537 → Fr n0 LJ537 → h0.size ≤ hJ537.size → own_Inv Z hJ537 n0 b526 v7 (own_start v7 i1) v19 (own_start v19 i2) ((True ∧ ¬ (¬ v67 = (0 : Int32) ∧ rl1 = v7 ∧ (own_start rl1 rc1) = (own_start v7 i1))) ∧ ¬ (¬ v75 = (0 : Int32) ∧ rl2 = v7 ∧ (own_start rl2 rc2) = (own_start v7 i1))) (((¬ pB = (0 : Int32)) ∧ ¬ (¬ v67 = (0 : Int32) ∧ rl1 = v19 ∧ (own_start rl1 rc1) = (own_start v19 i2))) ∧ ¬ (¬ v75 = (0 : Int32) ∧ rl2 = v19 ∧ (own_start rl2 rc2) = (own_start v19 i2))) → own_b01 ag ((¬ v67 = (0 : Int32) ∧ rl1 = v7 ∧ (own_start rl1 rc1) = (own_start v7 i1)) ∨ (¬ v75 = (0 : Int32) ∧ rl2 = v7 ∧ (own_start rl2 rc2) = (own_start v7 i1))) → own_Fin p.tables e below (own_post (Q0 Z o_cache ccl i0 i1 i2 i3 h0 n0) s 16 128) (TJ537.setTop (mkF m 309 #[.val (.int i0), .val (.int i1), .val (.int i2), .val (.int i3), .val (.int v7), .val (.int v19), .val (.int v31), .val (.int pB), .val (.int v67), .val (.int v75), .val (.int rl1), .val (.int rc1), .val (.int rl2), .val (.int rc2), .val (.ref b526), .val (.int (1 : Int32)), .unset, .unset, .unset] [(.int ag)])) := by
                                    as_aux_lemma =>
                                      intro TJ537 LJ537 hJ537 ag XJ537 eJ537 NJ537 zJ537 FJ537_0 hag
                                      refine own_rl 313 #[.val (.int i0), .val (.int i1), .val (.int i2), .val (.int i3), .val (.int v7), .val (.int v19), .val (.int v31), .val (.int pB), .val (.int v67), .val (.int v75), .val (.int rl1), .val (.int rc1), .val (.int rl2), .val (.int rc2), .val (.ref b526), .val (.int (1 : Int32)), .val (.int ag), .unset, .unset] [(.int v67)] XJ537 hx hby e0_309_2 rfl rfl ?_
                                      have J538 : ∀ (TJ538 : State) (LJ538 : List Loc) (hJ538 : Heap) (bg : Int32), Stand p l e room_1 s m #[(.int i0), (.int i1), (.int i2), (.int i3)] below meth c TJ538 LJ538 4 16 → TJ538.heap = hJ538 → Fr n0 LJ538 → h0.size ≤ hJ538.size → own_Inv Z hJ538 n0 b526 v7 (own_start v7 i1) v19 (own_start v19 i2) ((True ∧ ¬ (¬ v67 = (0 : Int32) ∧ rl1 = v7 ∧ (own_start rl1 rc1) = (own_start v7 i1))) ∧ ¬ (¬ v75 = (0 : Int32) ∧ rl2 = v7 ∧ (own_start rl2 rc2) = (own_start v7 i1))) (((¬ pB = (0 : Int32)) ∧ ¬ (¬ v67 = (0 : Int32) ∧ rl1 = v19 ∧ (own_start rl1 rc1) = (own_start v19 i2))) ∧ ¬ (¬ v75 = (0 : Int32) ∧ rl2 = v19 ∧ (own_start rl2 rc2) = (own_start v19 i2))) → own_b01 bg ((¬ v67 = (0 : Int32) ∧ rl1 = v19 ∧ (own_start rl1 rc1) = (own_start v19 i2)) ∨ (¬ v75 = (0 : Int32) ∧ rl2 = v19 ∧ (own_start rl2 rc2) = (own_start v19 i2))) → own_Fin p.tables e below (own_post (Q0 Z o_cache ccl i0 i1 i2 i3 h0 n0) s 16 128) (TJ538.setTop (mkF m 352 #[.val (.int i0), .val (.int i1), .val (.int i2), .val (.int i3), .val (.int v7), .val (.int v19), .val (.int v31), .val (.int pB), .val (.int v67), .val (.int v75), .val (.int rl1), .val (.int rc1), .val (.int rl2), .val (.int rc2), .val (.ref b526), .val (.int (1 : Int32)), .val (.int ag), .unset, .unset] [(.int bg)])) := by
                                        as_aux_lemma =>
                                          intro TJ538 LJ538 hJ538 bg XJ538 eJ538 NJ538 zJ538 FJ538_0 hbg
                                          refine own_rl 356 #[.val (.int i0), .val (.int i1), .val (.int i2), .val (.int i3), .val (.int v7), .val (.int v19), .val (.int v31), .val (.int pB), .val (.int v67), .val (.int v75), .val (.int rl1), .val (.int rc1), .val (.int rl2), .val (.int rc2), .val (.ref b526), .val (.int (1 : Int32)), .val (.int ag), .val (.int bg), .unset] [(.int ag)] XJ538 hx hby e0_352_2 rfl rfl ?_
                                          have J539 : ∀ (ee : Int32), own_b01 ee (((¬ v67 = (0 : Int32) ∧ rl1 = v7 ∧ (own_start rl1 rc1) = (own_start v7 i1)) ∨ (¬ v75 = (0 : Int32) ∧ rl2 = v7 ∧ (own_start rl2 rc2) = (own_start v7 i1))) ∧ (pB = (0 : Int32) ∨ ((¬ v67 = (0 : Int32) ∧ rl1 = v19 ∧ (own_start rl1 rc1) = (own_start v19 i2)) ∨ (¬ v75 = (0 : Int32) ∧ rl2 = v19 ∧ (own_start rl2 rc2) = (own_start v19 i2))))) → own_Fin p.tables e below (own_post (Q0 Z o_cache ccl i0 i1 i2 i3 h0 n0) s 16 128) (TJ538.setTop (mkF m 374 #[.val (.int i0), .val (.int i1), .val (.int i2), .val (.int i3), .val (.int v7), .val (.int v19), .val (.int v31), .val (.int pB), .val (.int v67), .val (.int v75), .val (.int rl1), .val (.int rc1), .val (.int rl2), .val (.int rc2), .val (.ref b526), .val (.int (1 : Int32)), .val (.int ag), .val (.int bg), .unset] [(.int ee)])) := by
                                            as_aux_lemma =>
                                              intro ee hee
                                              refine own_rl 378 #[.val (.int i0), .val (.int i1), .val (.int i2), .val (.int i3), .val (.int v7), .val (.int v19), .val (.int v31), .val (.int pB), .val (.int v67), .val (.int v75), .val (.int rl1), .val (.int rc1), .val (.int rl2), .val (.int rc2), .val (.ref b526), .val (.int (1 : Int32)), .val (.int ag), .val (.int bg), .val (.int ee)] [(.int (1 : Int32))] XJ538 hx hby e0_374_2 rfl rfl ?_
                                              refine own_iN 381 XJ538 hx (hb hby at_378) rfl ((if0 _ _).trans (feq (by decide : ¬ ((1 : Int32) = (0 : Int32)))).1) rfl ?_
                                              refine own_ru 383 [(.ref b526)] XJ538 hx hby e0_381_1 rfl rfl ?_
                                              have f540 : ex7 Z hJ538 b526 := own_InvE FJ538_0
                                              have lf540 : @LT.lt Nat _ b526 (Array.size hJ538) := f540.lt
                                              rcases own_InvRoot FJ538_0 with ⟨hz, hroot⟩ | ⟨rt, hz, hroot⟩
                                              · refine own_cV XJ538 hx hZ hown (wd9 hw) (wd10 hw) (notFace_of_selects (args := #[]) (mvT hZ (wd12 hw))) (wd12 hw) (wd11 hw) (by decide) (wd13 hw) (wd2 hw) (rm3n l Z a0 hw [] b526 hJ538 n0 (by omega) hroot) eJ538 f540 [] [] 386 0 (hb hby at_383) rfl (by rw [hml]; rfl) rfl rfl (lenOf pd_13 rfl) rfl (by decide) fun v541 T541 Lc541 X541 hQ541 => ?_
                                                obtain ⟨rfl, N541q, e541⟩ := hQ541
                                                have N541 := Fr.app NJ538 N541q
                                                refine own_ru 388 [(.int ee), (.int (1 : Int32))] X541 hx hby e0_386_1 rfl rfl ?_
                                                refine own_kN 391 X541 hx (hb hby at_388) rfl (teq (own_finE hee hz)).2 rfl ?_
                                                refine own_ru 392 [(.int (1 : Int32))] X541 hx hby e0_391_1 rfl rfl ?_
                                                refine own_go 396 X541 hx (hb hby at_392) (by decide) (by decide) ?_
                                                have hq542 : Q0 Z o_cache ccl i0 i1 i2 i3 h0 n0 (some (.int (nar .boolean (1 : Int32)))) hJ538 _ := ⟨rfl, N541⟩
                                                exact own_retN X541 hx hlk (t := .boolean) hrt (by simp) (hb hby at_396) e541 hq542 (by decide) (by decide)
                                              · refine own_cV XJ538 hx hZ hown (wd9 hw) (wd10 hw) (notFace_of_selects (args := #[]) (mvT hZ (wd12 hw))) (wd12 hw) (wd11 hw) (by decide) (wd13 hw) (wd2 hw) (rm3r l Z a0 hw [] b526 rt hJ538 n0 (by omega) hroot) eJ538 f540 [] [] 386 0 (hb hby at_383) rfl (by rw [hml]; rfl) rfl rfl (lenOf pd_13 rfl) rfl (by decide) fun v543 T543 Lc543 X543 hQ543 => ?_
                                                obtain ⟨rfl, N543q, e543⟩ := hQ543
                                                have N543 := Fr.app NJ538 N543q
                                                refine own_ru 388 [(.int ee), (.int (0 : Int32))] X543 hx hby e0_386_1 rfl rfl ?_
                                                refine own_kN 391 X543 hx (hb hby at_388) rfl (teq (own_finN hee hz)).2 rfl ?_
                                                refine own_ru 392 [(.int (1 : Int32))] X543 hx hby e0_391_1 rfl rfl ?_
                                                refine own_go 396 X543 hx (hb hby at_392) (by decide) (by decide) ?_
                                                have hq544 : Q0 Z o_cache ccl i0 i1 i2 i3 h0 n0 (some (.int (nar .boolean (1 : Int32)))) hJ538 _ := ⟨rfl, N543⟩
                                                exact own_retN X543 hx hlk (t := .boolean) hrt (by simp) (hb hby at_396) e543 hq544 (by decide) (by decide)
                                          by_cases hc356 : ag = (0 : Int32)
                                          · refine own_iY 373 XJ538 hx (hb hby at_356) rfl ((if0 _ _).trans (teq hc356).1) (by decide) (by decide) ?_
                                            refine own_ru 374 [(.int (0 : Int32))] XJ538 hx hby e0_373_1 rfl rfl ?_
                                            exact J539 (0 : Int32) (own_ee0 hag hc356)
                                          · refine own_iN 359 XJ538 hx (hb hby at_356) rfl ((if0 _ _).trans (feq hc356).1) rfl ?_
                                            refine own_ru 361 [(.int pB)] XJ538 hx hby e0_359_1 rfl rfl ?_
                                            by_cases hc361 : pB = (0 : Int32)
                                            · refine own_iY 369 XJ538 hx (hb hby at_361) rfl ((if0 _ _).trans (teq hc361).1) (by decide) (by decide) ?_
                                              refine own_ru 370 [(.int (1 : Int32))] XJ538 hx hby e0_369_1 rfl rfl ?_
                                              refine own_go 374 XJ538 hx (hb hby at_370) (by decide) (by decide) ?_
                                              exact J539 (1 : Int32) (own_ee1 hag hc356 hc361)
                                            · refine own_iN 364 XJ538 hx (hb hby at_361) rfl ((if0 _ _).trans (feq hc361).1) rfl ?_
                                              refine own_ru 366 [(.int bg)] XJ538 hx hby e0_364_1 rfl rfl ?_
                                              by_cases hc366 : bg = (0 : Int32)
                                              · refine own_iY 373 XJ538 hx (hb hby at_366) rfl ((if0 _ _).trans (teq hc366).1) (by decide) (by decide) ?_
                                                refine own_ru 374 [(.int (0 : Int32))] XJ538 hx hby e0_373_1 rfl rfl ?_
                                                exact J539 (0 : Int32) (own_ee2 hbg hc361 hc366)
                                              · refine own_iN 369 XJ538 hx (hb hby at_366) rfl ((if0 _ _).trans (feq hc366).1) rfl ?_
                                                refine own_ru 370 [(.int (1 : Int32))] XJ538 hx hby e0_369_1 rfl rfl ?_
                                                refine own_go 374 XJ538 hx (hb hby at_370) (by decide) (by decide) ?_
                                                exact J539 (1 : Int32) (own_ee3 hag hbg hc356 hc366)
                                      by_cases hc313 : v67 = (0 : Int32)
                                      · refine own_iY 329 XJ537 hx (hb hby at_313) rfl ((if0 _ _).trans (teq hc313).1) (by decide) (by decide) ?_
                                        refine own_ru 331 [(.int v75)] XJ537 hx hby e0_329_1 rfl rfl ?_
                                        by_cases hc331 : v75 = (0 : Int32)
                                        · refine own_iY 351 XJ537 hx (hb hby at_331) rfl ((if0 _ _).trans (teq hc331).1) (by decide) (by decide) ?_
                                          refine own_ru 352 [(.int (0 : Int32))] XJ537 hx hby e0_351_1 rfl rfl ?_
                                          exact J538 _ _ _ (0 : Int32) (XJ537.more (by decide) (by decide)) eJ537 NJ537 (by omega) FJ537_0 (Or.inr ⟨rfl, fun z => z.elim (fun z => z.1 hc313) (fun z => z.1 hc331)⟩)
                                        · refine own_iN 334 XJ537 hx (hb hby at_331) rfl ((if0 _ _).trans (feq hc331).1) rfl ?_
                                          refine own_ru 341 [(.int i2), (.int v19), (.int rc2), (.int rl2)] XJ537 hx hby e0_334_4 rfl rfl ?_
                                          refine own_cS XJ537 hx hZ hown (wd56 hw) (wd57 hw) (by decide) (wd59 hw) (wd58 hw) (rm11 l Z a0 hw [] rl2 rc2 v19 i2 hJ537 n0 (by omega) ) eJ537  [(.int rl2), (.int rc2), (.int v19), (.int i2)] [] 344 0 (hb hby at_341) rfl (by rw [hml]; rfl) rfl rfl (lenOf pd_16 rfl) rfl (by decide) fun v545 T545 Lc545 X545 hQ545 => ?_
                                          obtain ⟨hvc545, N545q, e545⟩ := hQ545
                                          have N545 := Fr.app NJ537 N545q
                                          rcases hvc545 with ⟨rfl, hp341⟩ | ⟨rfl, hp341⟩
                                          · refine own_iN 347 X545 hx (hb hby at_344) rfl ((if0 _ _).trans (feq (by decide : ¬ ((1 : Int32) = (0 : Int32)))).1) rfl ?_
                                            refine own_ru 348 [(.int (1 : Int32))] X545 hx hby e0_347_1 rfl rfl ?_
                                            refine own_go 352 X545 hx (hb hby at_348) (by decide) (by decide) ?_
                                            exact J538 _ _ _ (1 : Int32) (X545.more (by decide) (by decide)) e545 N545 (by omega) FJ537_0 (Or.inl ⟨rfl, Or.inr ⟨hc331, hp341⟩⟩)
                                          · refine own_iY 351 X545 hx (hb hby at_344) rfl ((if0 _ _).trans (teq (by decide : ((0 : Int32) = (0 : Int32)))).1) (by decide) (by decide) ?_
                                            refine own_ru 352 [(.int (0 : Int32))] X545 hx hby e0_351_1 rfl rfl ?_
                                            exact J538 _ _ _ (0 : Int32) (X545.more (by decide) (by decide)) e545 N545 (by omega) FJ537_0 (Or.inr ⟨rfl, fun z => z.elim (fun z => z.1 hc313) (fun z => hp341 z.2)⟩)
                                      · refine own_iN 316 XJ537 hx (hb hby at_313) rfl ((if0 _ _).trans (feq hc313).1) rfl ?_
                                        refine own_ru 323 [(.int i2), (.int v19), (.int rc1), (.int rl1)] XJ537 hx hby e0_316_4 rfl rfl ?_
                                        refine own_cS XJ537 hx hZ hown (wd56 hw) (wd57 hw) (by decide) (wd59 hw) (wd58 hw) (rm11 l Z a0 hw [] rl1 rc1 v19 i2 hJ537 n0 (by omega) ) eJ537  [(.int rl1), (.int rc1), (.int v19), (.int i2)] [] 326 0 (hb hby at_323) rfl (by rw [hml]; rfl) rfl rfl (lenOf pd_16 rfl) rfl (by decide) fun v546 T546 Lc546 X546 hQ546 => ?_
                                        obtain ⟨hvc546, N546q, e546⟩ := hQ546
                                        have N546 := Fr.app NJ537 N546q
                                        rcases hvc546 with ⟨rfl, hp323⟩ | ⟨rfl, hp323⟩
                                        · refine own_iY 347 X546 hx (hb hby at_326) rfl ((if0 _ _).trans (feq (by decide : ¬ ((1 : Int32) = (0 : Int32)))).2) (by decide) (by decide) ?_
                                          refine own_ru 348 [(.int (1 : Int32))] X546 hx hby e0_347_1 rfl rfl ?_
                                          refine own_go 352 X546 hx (hb hby at_348) (by decide) (by decide) ?_
                                          exact J538 _ _ _ (1 : Int32) (X546.more (by decide) (by decide)) e546 N546 (by omega) FJ537_0 (Or.inl ⟨rfl, Or.inl ⟨hc313, hp323⟩⟩)
                                        · refine own_iN 329 X546 hx (hb hby at_326) rfl ((if0 _ _).trans (teq (by decide : ((0 : Int32) = (0 : Int32)))).2) rfl ?_
                                          refine own_ru 331 [(.int v75)] X546 hx hby e0_329_1 rfl rfl ?_
                                          by_cases hc331 : v75 = (0 : Int32)
                                          · refine own_iY 351 X546 hx (hb hby at_331) rfl ((if0 _ _).trans (teq hc331).1) (by decide) (by decide) ?_
                                            refine own_ru 352 [(.int (0 : Int32))] X546 hx hby e0_351_1 rfl rfl ?_
                                            exact J538 _ _ _ (0 : Int32) (X546.more (by decide) (by decide)) e546 N546 (by omega) FJ537_0 (Or.inr ⟨rfl, fun z => z.elim (fun z => hp323 z.2) (fun z => z.1 hc331)⟩)
                                          · refine own_iN 334 X546 hx (hb hby at_331) rfl ((if0 _ _).trans (feq hc331).1) rfl ?_
                                            refine own_ru 341 [(.int i2), (.int v19), (.int rc2), (.int rl2)] X546 hx hby e0_334_4 rfl rfl ?_
                                            refine own_cS X546 hx hZ hown (wd56 hw) (wd57 hw) (by decide) (wd59 hw) (wd58 hw) (rm11 l Z a0 hw [] rl2 rc2 v19 i2 hJ537 n0 (by omega) ) e546  [(.int rl2), (.int rc2), (.int v19), (.int i2)] [] 344 0 (hb hby at_341) rfl (by rw [hml]; rfl) rfl rfl (lenOf pd_16 rfl) rfl (by decide) fun v547 T547 Lc547 X547 hQ547 => ?_
                                            obtain ⟨hvc547, N547q, e547⟩ := hQ547
                                            have N547 := Fr.app N546 N547q
                                            rcases hvc547 with ⟨rfl, hp341⟩ | ⟨rfl, hp341⟩
                                            · refine own_iN 347 X547 hx (hb hby at_344) rfl ((if0 _ _).trans (feq (by decide : ¬ ((1 : Int32) = (0 : Int32)))).1) rfl ?_
                                              refine own_ru 348 [(.int (1 : Int32))] X547 hx hby e0_347_1 rfl rfl ?_
                                              refine own_go 352 X547 hx (hb hby at_348) (by decide) (by decide) ?_
                                              exact J538 _ _ _ (1 : Int32) (X547.more (by decide) (by decide)) e547 N547 (by omega) FJ537_0 (Or.inl ⟨rfl, Or.inr ⟨hc331, hp341⟩⟩)
                                            · refine own_iY 351 X547 hx (hb hby at_344) rfl ((if0 _ _).trans (teq (by decide : ((0 : Int32) = (0 : Int32)))).1) (by decide) (by decide) ?_
                                              refine own_ru 352 [(.int (0 : Int32))] X547 hx hby e0_351_1 rfl rfl ?_
                                              exact J538 _ _ _ (0 : Int32) (X547.more (by decide) (by decide)) e547 N547 (by omega) FJ537_0 (Or.inr ⟨rfl, fun z => z.elim (fun z => hp323 z.2) (fun z => hp341 z.2)⟩)
                                  by_cases hc270 : v67 = (0 : Int32)
                                  · refine own_iY 286 XJ536 hx (hb hby at_270) rfl ((if0 _ _).trans (teq hc270).1) (by decide) (by decide) ?_
                                    refine own_ru 288 [(.int v75)] XJ536 hx hby e0_286_1 rfl rfl ?_
                                    by_cases hc288 : v75 = (0 : Int32)
                                    · refine own_iY 308 XJ536 hx (hb hby at_288) rfl ((if0 _ _).trans (teq hc288).1) (by decide) (by decide) ?_
                                      refine own_ru 309 [(.int (0 : Int32))] XJ536 hx hby e0_308_1 rfl rfl ?_
                                      exact J537 _ _ _ (0 : Int32) (XJ536.more (by decide) (by decide)) eJ536 NJ536 (by omega) FJ536_0 (Or.inr ⟨rfl, fun z => z.elim (fun z => z.1 hc270) (fun z => z.1 hc288)⟩)
                                    · refine own_iN 291 XJ536 hx (hb hby at_288) rfl ((if0 _ _).trans (feq hc288).1) rfl ?_
                                      refine own_ru 298 [(.int i1), (.int v7), (.int rc2), (.int rl2)] XJ536 hx hby e0_291_4 rfl rfl ?_
                                      refine own_cS XJ536 hx hZ hown (wd56 hw) (wd57 hw) (by decide) (wd59 hw) (wd58 hw) (rm11 l Z a0 hw [] rl2 rc2 v7 i1 hJ536 n0 (by omega) ) eJ536  [(.int rl2), (.int rc2), (.int v7), (.int i1)] [] 301 0 (hb hby at_298) rfl (by rw [hml]; rfl) rfl rfl (lenOf pd_16 rfl) rfl (by decide) fun v548 T548 Lc548 X548 hQ548 => ?_
                                      obtain ⟨hvc548, N548q, e548⟩ := hQ548
                                      have N548 := Fr.app NJ536 N548q
                                      rcases hvc548 with ⟨rfl, hp298⟩ | ⟨rfl, hp298⟩
                                      · refine own_iN 304 X548 hx (hb hby at_301) rfl ((if0 _ _).trans (feq (by decide : ¬ ((1 : Int32) = (0 : Int32)))).1) rfl ?_
                                        refine own_ru 305 [(.int (1 : Int32))] X548 hx hby e0_304_1 rfl rfl ?_
                                        refine own_go 309 X548 hx (hb hby at_305) (by decide) (by decide) ?_
                                        exact J537 _ _ _ (1 : Int32) (X548.more (by decide) (by decide)) e548 N548 (by omega) FJ536_0 (Or.inl ⟨rfl, Or.inr ⟨hc288, hp298⟩⟩)
                                      · refine own_iY 308 X548 hx (hb hby at_301) rfl ((if0 _ _).trans (teq (by decide : ((0 : Int32) = (0 : Int32)))).1) (by decide) (by decide) ?_
                                        refine own_ru 309 [(.int (0 : Int32))] X548 hx hby e0_308_1 rfl rfl ?_
                                        exact J537 _ _ _ (0 : Int32) (X548.more (by decide) (by decide)) e548 N548 (by omega) FJ536_0 (Or.inr ⟨rfl, fun z => z.elim (fun z => z.1 hc270) (fun z => hp298 z.2)⟩)
                                  · refine own_iN 273 XJ536 hx (hb hby at_270) rfl ((if0 _ _).trans (feq hc270).1) rfl ?_
                                    refine own_ru 280 [(.int i1), (.int v7), (.int rc1), (.int rl1)] XJ536 hx hby e0_273_4 rfl rfl ?_
                                    refine own_cS XJ536 hx hZ hown (wd56 hw) (wd57 hw) (by decide) (wd59 hw) (wd58 hw) (rm11 l Z a0 hw [] rl1 rc1 v7 i1 hJ536 n0 (by omega) ) eJ536  [(.int rl1), (.int rc1), (.int v7), (.int i1)] [] 283 0 (hb hby at_280) rfl (by rw [hml]; rfl) rfl rfl (lenOf pd_16 rfl) rfl (by decide) fun v549 T549 Lc549 X549 hQ549 => ?_
                                    obtain ⟨hvc549, N549q, e549⟩ := hQ549
                                    have N549 := Fr.app NJ536 N549q
                                    rcases hvc549 with ⟨rfl, hp280⟩ | ⟨rfl, hp280⟩
                                    · refine own_iY 304 X549 hx (hb hby at_283) rfl ((if0 _ _).trans (feq (by decide : ¬ ((1 : Int32) = (0 : Int32)))).2) (by decide) (by decide) ?_
                                      refine own_ru 305 [(.int (1 : Int32))] X549 hx hby e0_304_1 rfl rfl ?_
                                      refine own_go 309 X549 hx (hb hby at_305) (by decide) (by decide) ?_
                                      exact J537 _ _ _ (1 : Int32) (X549.more (by decide) (by decide)) e549 N549 (by omega) FJ536_0 (Or.inl ⟨rfl, Or.inl ⟨hc270, hp280⟩⟩)
                                    · refine own_iN 286 X549 hx (hb hby at_283) rfl ((if0 _ _).trans (teq (by decide : ((0 : Int32) = (0 : Int32)))).2) rfl ?_
                                      refine own_ru 288 [(.int v75)] X549 hx hby e0_286_1 rfl rfl ?_
                                      by_cases hc288 : v75 = (0 : Int32)
                                      · refine own_iY 308 X549 hx (hb hby at_288) rfl ((if0 _ _).trans (teq hc288).1) (by decide) (by decide) ?_
                                        refine own_ru 309 [(.int (0 : Int32))] X549 hx hby e0_308_1 rfl rfl ?_
                                        exact J537 _ _ _ (0 : Int32) (X549.more (by decide) (by decide)) e549 N549 (by omega) FJ536_0 (Or.inr ⟨rfl, fun z => z.elim (fun z => hp280 z.2) (fun z => z.1 hc288)⟩)
                                      · refine own_iN 291 X549 hx (hb hby at_288) rfl ((if0 _ _).trans (feq hc288).1) rfl ?_
                                        refine own_ru 298 [(.int i1), (.int v7), (.int rc2), (.int rl2)] X549 hx hby e0_291_4 rfl rfl ?_
                                        refine own_cS X549 hx hZ hown (wd56 hw) (wd57 hw) (by decide) (wd59 hw) (wd58 hw) (rm11 l Z a0 hw [] rl2 rc2 v7 i1 hJ536 n0 (by omega) ) e549  [(.int rl2), (.int rc2), (.int v7), (.int i1)] [] 301 0 (hb hby at_298) rfl (by rw [hml]; rfl) rfl rfl (lenOf pd_16 rfl) rfl (by decide) fun v550 T550 Lc550 X550 hQ550 => ?_
                                        obtain ⟨hvc550, N550q, e550⟩ := hQ550
                                        have N550 := Fr.app N549 N550q
                                        rcases hvc550 with ⟨rfl, hp298⟩ | ⟨rfl, hp298⟩
                                        · refine own_iN 304 X550 hx (hb hby at_301) rfl ((if0 _ _).trans (feq (by decide : ¬ ((1 : Int32) = (0 : Int32)))).1) rfl ?_
                                          refine own_ru 305 [(.int (1 : Int32))] X550 hx hby e0_304_1 rfl rfl ?_
                                          refine own_go 309 X550 hx (hb hby at_305) (by decide) (by decide) ?_
                                          exact J537 _ _ _ (1 : Int32) (X550.more (by decide) (by decide)) e550 N550 (by omega) FJ536_0 (Or.inl ⟨rfl, Or.inr ⟨hc288, hp298⟩⟩)
                                        · refine own_iY 308 X550 hx (hb hby at_301) rfl ((if0 _ _).trans (teq (by decide : ((0 : Int32) = (0 : Int32)))).1) (by decide) (by decide) ?_
                                          refine own_ru 309 [(.int (0 : Int32))] X550 hx hby e0_308_1 rfl rfl ?_
                                          exact J537 _ _ _ (0 : Int32) (X550.more (by decide) (by decide)) e550 N550 (by omega) FJ536_0 (Or.inr ⟨rfl, fun z => z.elim (fun z => hp280 z.2) (fun z => hp298 z.2)⟩)
                              by_cases hc256 : v75 = (0 : Int32)
                              · refine own_iY 268 XJ535 hx (hb hby at_256) rfl ((if0 _ _).trans (teq hc256).1) (by decide) (by decide) ?_
                                exact J536 _ _ _  (XJ535.more (by decide) (by decide)) eJ535 NJ535 (by omega) (own_invN (fun z => z hc256) FJ535_0) 
                              · refine own_iN 259 XJ535 hx (hb hby at_256) rfl ((if0 _ _).trans (feq hc256).1) rfl ?_
                                refine own_ru 265 [(.int rc2), (.int rl2), (.ref b526)] XJ535 hx hby e0_259_3 rfl rfl ?_
                                have f551 : ex7 Z hJ535 b526 := own_InvE FJ535_0
                                have lf551 : @LT.lt Nat _ b526 (Array.size hJ535) := f551.lt
                                refine own_cV XJ535 hx hZ hown (wd96 hw) (wd97 hw) (notFace_of_selects (args := #[]) (mvT hZ (wd99 hw))) (wd99 hw) (wd98 hw) (by decide) (wd100 hw) (wd2 hw) (rm20 l Z a0 hw [] b526 rl2 rc2 v7 (own_start v7 i1) v19 (own_start v19 i2) (True ∧ ¬ (¬ v67 = (0 : Int32) ∧ rl1 = v7 ∧ (own_start rl1 rc1) = (own_start v7 i1))) ((¬ pB = (0 : Int32)) ∧ ¬ (¬ v67 = (0 : Int32) ∧ rl1 = v19 ∧ (own_start rl1 rc1) = (own_start v19 i2))) hJ535 n0 (by omega) FJ535_0) eJ535 f551 [(.int rl2), (.int rc2)] [] 268 0 (hb hby at_265) rfl (by rw [hml]; rfl) rfl rfl (lenOf pd_17 rfl) rfl (by decide) fun v552 T552 Lc552 X552 hQ552 => ?_
                                obtain ⟨rfl, N552q, K552, G552_0⟩ := hQ552
                                have N552 := Fr.app NJ535 N552q
                                exact J536 _ _ _  (X552.more (by decide) (by decide)) rfl N552 (by omega) (own_invR hc256 G552_0) 
                          by_cases hc242 : v67 = (0 : Int32)
                          · refine own_iY 254 XJ534 hx (hb hby at_242) rfl ((if0 _ _).trans (teq hc242).1) (by decide) (by decide) ?_
                            exact J535 _ _ _  (XJ534.more (by decide) (by decide)) eJ534 NJ534 (by omega) (own_invN (fun z => z hc242) FJ534_0) 
                          · refine own_iN 245 XJ534 hx (hb hby at_242) rfl ((if0 _ _).trans (feq hc242).1) rfl ?_
                            refine own_ru 251 [(.int rc1), (.int rl1), (.ref b526)] XJ534 hx hby e0_245_3 rfl rfl ?_
                            have f553 : ex7 Z hJ534 b526 := own_InvE FJ534_0
                            have lf553 : @LT.lt Nat _ b526 (Array.size hJ534) := f553.lt
                            refine own_cV XJ534 hx hZ hown (wd96 hw) (wd97 hw) (notFace_of_selects (args := #[]) (mvT hZ (wd99 hw))) (wd99 hw) (wd98 hw) (by decide) (wd100 hw) (wd2 hw) (rm20 l Z a0 hw [] b526 rl1 rc1 v7 (own_start v7 i1) v19 (own_start v19 i2) True (¬ pB = (0 : Int32)) hJ534 n0 (by omega) FJ534_0) eJ534 f553 [(.int rl1), (.int rc1)] [] 254 0 (hb hby at_251) rfl (by rw [hml]; rfl) rfl rfl (lenOf pd_17 rfl) rfl (by decide) fun v554 T554 Lc554 X554 hQ554 => ?_
                            obtain ⟨rfl, N554q, K554, G554_0⟩ := hQ554
                            have N554 := Fr.app NJ534 N554q
                            exact J535 _ _ _  (X554.more (by decide) (by decide)) rfl N554 (by omega) (own_invR hc242 G554_0) 
                      by_cases hc225 : pB = (0 : Int32)
                      · refine own_iY 240 X533 hx (hb hby at_225) rfl ((if0 _ _).trans (teq hc225).1) (by decide) (by decide) ?_
                        have f555 : own_Inv Z T532.heap n0 b526 v7 (own_start v7 i1) v19 (own_start v19 i2) True (¬ pB = (0 : Int32)) := Or.inr (Or.inl ⟨trivial, fun z => z hc225, ⟨nd_532, _, G532_0, G532_1, G532_2, G532_3, G532_4, G532_5, G532_6, G532_7, by omega, by omega, by omega⟩⟩)
                        exact J534 _ _ _  (X533.more (by decide) (by decide)) e533 N533 (by omega) f555 
                      · refine own_iN 228 X533 hx (hb hby at_225) rfl ((if0 _ _).trans (feq hc225).1) rfl ?_
                        refine own_ru 234 [(.int (2 : Int32)), (.int i2), (.int v19), (.ref b526)] X533 hx hby e0_228_4 rfl rfl ?_
                        have f556 := (f530.keep K532 (allS (by omega) all0))
                        refine own_cS X533 hx hZ hown (wd16 hw) (wd17 hw) (by decide) (wd19 hw) (wd18 hw) (rm4v2 l Z a0 hw [] o_cache ccl T532.heap n0 (by omega) f556 A) e533  [(.int (2 : Int32))] [(.int i2), (.int v19), (.ref b526)] 237 3 (hb hby at_234) rfl (by rw [hml]; rfl) rfl rfl (lenOf pd_14 rfl) rfl (by decide) fun v557 T557 Lc557 X557 hQ557 => ?_
                        obtain ⟨ob_557, rfl, N557q, e557⟩ := hQ557
                        have N557 := Fr.app N533 N557q
                        refine own_cV X557 hx hZ hown (wd23 hw) (wd24 hw) (notFace_of_selects (args := #[]) (mvT hZ (wd26 hw))) (wd26 hw) (wd25 hw) (by decide) (wd27 hw) (wd2 hw) (rm5l l Z a0 hw [] b526 v19 i2 ob_557 nd_532 v7 (own_start v7 i1) ob_531 T532.heap n0 (by omega) G532_0 G532_1 G532_2 G532_3 G532_4 G532_5 G532_6 G532_7 (by omega) (by omega) (by first | assumption | decide | omega) al1 al2 (own_nsym (hpB hc225))) e557 G532_0 [(.int v19), (.int i2), (.ref ob_557)] [] 240 0 (hb hby at_237) rfl (by rw [hml]; rfl) rfl rfl (lenOf pd_15 rfl) rfl (by decide) fun v558 T558 Lc558 X558 hQ558 => ?_
                        obtain ⟨rfl, N558q, K558, G558_0⟩ := hQ558
                        have N558 := Fr.app N557 N558q
                        have f559 : own_Inv Z T558.heap n0 b526 v7 (own_start v7 i1) v19 (own_start v19 i2) True (¬ pB = (0 : Int32)) := Or.inl ⟨trivial, hc225, G558_0⟩
                        exact J534 _ _ _  (X558.more (by decide) (by decide)) rfl N558 (by omega) f559 
                  by_cases hc155 : v75 = (1 : Int32)
                  · refine own_kN 158 XJ521 hx (hb hby at_155) rfl (teq hc155).2 rfl ?_
                    refine own_ru 159 [(.int i1)] XJ521 hx hby e0_158_1 rfl rfl ?_
                    refine own_go 173 XJ521 hx (hb hby at_159) (by decide) (by decide) ?_
                    exact J525 i1 
                  · refine own_kY 162 XJ521 hx (hb hby at_155) rfl (feq hc155).2 (by decide) (by decide) ?_
                    refine own_ru 165 [(.int (2 : Int32)), (.int v75)] XJ521 hx hby e0_162_2 rfl rfl ?_
                    by_cases hc165 : v75 = (2 : Int32)
                    · refine own_kN 168 XJ521 hx (hb hby at_165) rfl (teq hc165).2 rfl ?_
                      refine own_ru 169 [(.int i2)] XJ521 hx hby e0_168_1 rfl rfl ?_
                      refine own_go 173 XJ521 hx (hb hby at_169) (by decide) (by decide) ?_
                      exact J525 i2 
                    · refine own_kY 172 XJ521 hx (hb hby at_165) rfl (feq hc165).2 (by decide) (by decide) ?_
                      refine own_ru 173 [(.int i3)] XJ521 hx hby e0_172_1 rfl rfl ?_
                      exact J525 i3 
              by_cases hc129 : v75 = (1 : Int32)
              · refine own_kN 132 XJ521 hx (hb hby at_129) rfl (teq hc129).2 rfl ?_
                refine own_ru 134 [(.int v7)] XJ521 hx hby e0_132_1 rfl rfl ?_
                refine own_go 150 XJ521 hx (hb hby at_134) (by decide) (by decide) ?_
                exact J524 v7 
              · refine own_kY 137 XJ521 hx (hb hby at_129) rfl (feq hc129).2 (by decide) (by decide) ?_
                refine own_ru 140 [(.int (2 : Int32)), (.int v75)] XJ521 hx hby e0_137_2 rfl rfl ?_
                by_cases hc140 : v75 = (2 : Int32)
                · refine own_kN 143 XJ521 hx (hb hby at_140) rfl (teq hc140).2 rfl ?_
                  refine own_ru 145 [(.int v19)] XJ521 hx hby e0_143_1 rfl rfl ?_
                  refine own_go 150 XJ521 hx (hb hby at_145) (by decide) (by decide) ?_
                  exact J524 v19 
                · refine own_kY 148 XJ521 hx (hb hby at_140) rfl (feq hc140).2 (by decide) (by decide) ?_
                  refine own_ru 150 [(.int v31)] XJ521 hx hby e0_148_1 rfl rfl ?_
                  exact J524 v31 
          by_cases hc106 : v67 = (1 : Int32)
          · refine own_kN 109 XJ521 hx (hb hby at_106) rfl (teq hc106).2 rfl ?_
            refine own_ru 110 [(.int i1)] XJ521 hx hby e0_109_1 rfl rfl ?_
            refine own_go 124 XJ521 hx (hb hby at_110) (by decide) (by decide) ?_
            exact J523 i1 
          · refine own_kY 113 XJ521 hx (hb hby at_106) rfl (feq hc106).2 (by decide) (by decide) ?_
            refine own_ru 116 [(.int (2 : Int32)), (.int v67)] XJ521 hx hby e0_113_2 rfl rfl ?_
            by_cases hc116 : v67 = (2 : Int32)
            · refine own_kN 119 XJ521 hx (hb hby at_116) rfl (teq hc116).2 rfl ?_
              refine own_ru 120 [(.int i2)] XJ521 hx hby e0_119_1 rfl rfl ?_
              refine own_go 124 XJ521 hx (hb hby at_120) (by decide) (by decide) ?_
              exact J523 i2 
            · refine own_kY 123 XJ521 hx (hb hby at_116) rfl (feq hc116).2 (by decide) (by decide) ?_
              refine own_ru 124 [(.int i3)] XJ521 hx hby e0_123_1 rfl rfl ?_
              exact J523 i3 
      by_cases hc80 : v67 = (1 : Int32)
      · refine own_kN 83 XJ521 hx (hb hby at_80) rfl (teq hc80).2 rfl ?_
        refine own_ru 85 [(.int v7)] XJ521 hx hby e0_83_1 rfl rfl ?_
        refine own_go 101 XJ521 hx (hb hby at_85) (by decide) (by decide) ?_
        exact J522 v7 
      · refine own_kY 88 XJ521 hx (hb hby at_80) rfl (feq hc80).2 (by decide) (by decide) ?_
        refine own_ru 91 [(.int (2 : Int32)), (.int v67)] XJ521 hx hby e0_88_2 rfl rfl ?_
        by_cases hc91 : v67 = (2 : Int32)
        · refine own_kN 94 XJ521 hx (hb hby at_91) rfl (teq hc91).2 rfl ?_
          refine own_ru 96 [(.int v19)] XJ521 hx hby e0_94_1 rfl rfl ?_
          refine own_go 101 XJ521 hx (hb hby at_96) (by decide) (by decide) ?_
          exact J522 v19 
        · refine own_kY 99 XJ521 hx (hb hby at_91) rfl (feq hc91).2 (by decide) (by decide) ?_
          refine own_ru 101 [(.int v31)] XJ521 hx hby e0_99_1 rfl rfl ?_
          exact J522 v31 
  by_cases hc39 : (((i0.toUInt32 >>> ((18 : Int32) &&& 31).toUInt32).toInt32) &&& (1 : Int32)) = (0 : Int32)
  · refine own_iY 58 X0 hx (hb hby at_39) rfl ((if0 _ _).trans (teq hc39).1) (by decide) (by decide) ?_
    refine own_ru 59 [(.int (0 : Int32))] X0 hx hby e0_58_1 rfl rfl ?_
    exact J521 _ _ _ (0 : Int32) (X0.more (by decide) (by decide)) e0 N0 (by omega) OLD (fun z => absurd rfl z)
  · refine own_iN 42 X0 hx (hb hby at_39) rfl ((if0 _ _).trans (feq hc39).1) rfl ?_
    refine own_ru 48 [(.int i1), (.int v7), (.int i2), (.int v19)] X0 hx hby e0_42_4 rfl rfl ?_
    refine own_cS X0 hx hZ hown (wd56 hw) (wd57 hw) (by decide) (wd59 hw) (wd58 hw) (rm11 l Z a0 hw [] v19 i2 v7 i1 h0 n0 (by omega) ) e0  [(.int v19), (.int i2), (.int v7), (.int i1)] [] 51 0 (hb hby at_48) rfl (by rw [hml]; rfl) rfl rfl (lenOf pd_16 rfl) rfl (by decide) fun v560 T560 Lc560 X560 hQ560 => ?_
    obtain ⟨hvc560, N560q, e560⟩ := hQ560
    have N560 := Fr.app N0 N560q
    rcases hvc560 with ⟨rfl, hp48⟩ | ⟨rfl, hp48⟩
    · refine own_iY 58 X560 hx (hb hby at_51) rfl ((if0 _ _).trans (feq (by decide : ¬ ((1 : Int32) = (0 : Int32)))).2) (by decide) (by decide) ?_
      refine own_ru 59 [(.int (0 : Int32))] X560 hx hby e0_58_1 rfl rfl ?_
      exact J521 _ _ _ (0 : Int32) (X560.more (by decide) (by decide)) e560 N560 (by omega) OLD (fun z => absurd rfl z)
    · refine own_iN 54 X560 hx (hb hby at_51) rfl ((if0 _ _).trans (teq (by decide : ((0 : Int32) = (0 : Int32)))).2) rfl ?_
      refine own_ru 55 [(.int (1 : Int32))] X560 hx hby e0_54_1 rfl rfl ?_
      refine own_go 59 X560 hx (hb hby at_55) (by decide) (by decide) ?_
      exact J521 _ _ _ (1 : Int32) (X560.more (by decide) (by decide)) e560 N560 (by omega) OLD (fun _ => hp48)
set_option maxRecDepth 65536 in
set_option maxHeartbeats 40000000 in
theorem comes_1 {Post : Tables → Env → Array Value → State → Outcome → State → Prop} (hpost : ∀ tb e args s v u, (limb_1_1.after args s (.returned v) u = true ∧ limb_1_2.after args s (.returned v) u = true ∧ True) → FrameEnd s (.returned v) u (Jvm.fieldLocs frame_1_writes args s ++ Jvm.arrayLocs frame_1_arrays args s ++ Jvm.staticLocs frame_1_statics s) 16 128 → Post tb e args s (.returned v) u) :
    ArmFor flags0 classFile x code maxLocals ret World_1 tables_1 room_1 Calls_1 rest_1 Pre_1 Post := by
  intro l hfl _ _ p e ha hc hk s m args below hf hA hF happ hP
  obtain ⟨hcalls, hrest, hpre⟩ := hP
  obtain ⟨-, -, -, hnamed, -, -, -, hat⟩ := (Spec.applies_iff hf).mp happ
  obtain ⟨hg, hn⟩ := and_e (Cond.before_iff.mp (show (Jvm.Cond.and given_1 narrow_1).before args s = true from hpre))
  obtain ⟨gg1, gg2⟩ := and_e hg
  obtain ⟨gg3, gg4⟩ := and_e gg2
  obtain ⟨gg5, gg6⟩ := and_e gg4
  obtain ⟨gg7, gg8⟩ := and_e gg6
  obtain ⟨w0, w1, w2, w3, rfl⟩ : ∃ w0 w1 w2 w3 : Value, args = #[w0, w1, w2, w3] := by
    have hs : args.size = 4 := by simpa [Cond.value, given_1] using gg1
    obtain ⟨L⟩ := args
    match L, hs with
    | [w0, w1, w2, w3], _ => exact ⟨w0, w1, w2, w3, rfl⟩
  have hw := fun d (hd : d ∈ tables_1) => atoms_spec (ws := Jvm.Cond.code x code maxLocals ret :: tables_1) hat d (List.mem_cons_of_mem _ hd)
  have hfit : Fit s := fun {y c} hc i hi => by
    obtain ⟨ha, rfl⟩ := Array.getElem?_eq_some_iff.mp hc
    have q := List.all_eq_true.mp ((Array.all_eq_true_iff_forall_mem.mp hF) _ (Array.getElem_mem ha)) i (List.mem_range.mpr hi)
    simpa [Array.getElem?_eq_getElem hi] using q
  obtain ⟨i0, ei0⟩ := is_v gg3
  obtain rfl : w0 = (.int i0) := Option.some.inj ei0
  obtain ⟨i1, ei1⟩ := is_v gg5
  obtain rfl : w1 = (.int i1) := Option.some.inj ei1
  obtain ⟨i2, ei2⟩ := is_v gg7
  obtain rfl : w2 = (.int i2) := Option.some.inj ei2
  obtain ⟨i3, ei3⟩ := is_v gg8
  obtain rfl : w3 = (.int i3) := Option.some.inj ei3
  obtain ⟨hsets, hown0⟩ := atoms_of _ (rest_1_c_eq ▸ (show rest_1_c.before _ s = true from hrest))
  have hn0 := hn
  have eHigh := own_eqI (Cond.before_iff.mp (hsets _ (List.mem_of_getElem? (i := 3) rfl))) (Term.int_eval _)
  obtain ⟨o_cache, eCache⟩ := arr_v (Cond.before_iff.mp (hsets _ (List.mem_of_getElem? (i := 4) rfl)))
  obtain ⟨ccl, Acl⟩ := Arr.start eCache (Cond.before_iff.mp (hsets _ (List.mem_of_getElem? (i := 4) rfl)))
  have M0 : Sta s s.heap "java/lang/Integer$IntegerCache" "high" "I" (.int (127 : Int32)) := Sta.start eHigh (Or.inr ⟨hw _ (List.mem_of_getElem? (i := 21) rfl), (hsets _ (List.mem_of_getElem? (i := 0) rfl))⟩)
  have M1 : Sta s s.heap "java/lang/Integer$IntegerCache" "cache" "[Ljava/lang/Integer;" (.ref o_cache) := Sta.start eCache (Or.inr ⟨hw _ (List.mem_of_getElem? (i := 21) rfl), (hsets _ (List.mem_of_getElem? (i := 2) rfl))⟩)
  have MP0 : Bxs s o_cache ccl "java/lang/Integer" "I" (256 : Int32) (fun j => .int (j - (128 : Int32))) := own_bx eCache Acl (own_eqI (Cond.before_iff.mp (hsets _ (List.mem_of_getElem? (i := 6) rfl))) (Term.int_eval _)) (Cond.before_iff.mp (hsets _ (List.mem_of_getElem? (i := 7) rfl)))
  have AM : Amb s o_cache ccl := ⟨M0, M1, MP0, trivial⟩
  obtain ⟨n, o, h1, h2, h3, _, L, rfl, ⟨rfl, N⟩, hq⟩ := rm0 l s _ hw tables_1 o_cache ccl i0 i1 i2 i3 s.heap s.heap.size (Nat.le_refl _) (Old.start s) AM p e ha hc hk s m _ below hf ((Spec.applies_iff_loose hf).mp happ).1 ⟨rfl, State.Warmed39.refl s, rfl⟩ trivial
  refine ⟨n, _, h1, h2, h3, hpost _ _ _ _ _ _ ⟨Cond.after_iff.mpr rfl, Cond.after_iff.mpr (eq_i res_at (Term.int_eval (1)) rfl), trivial⟩ ⟨hq.1, hq.2.1, (hq.2.2.sift fun y hy => Or.inr (N y hy)).mono (by decide) (by decide)⟩⟩
theorem main_1_1 : Claimed_1_1 := comes_1 fun _ _ _ _ _ _ h hF => ⟨h.1, hF⟩
theorem main_1_2 : Claimed_1_2 := comes_1 fun _ _ _ _ _ _ h hF => ⟨h.2.1, hF⟩
end Jvm.Pilot.@@N@@
namespace Jvm.Pilot.@@N@@
open Jvm Jvm.ClassFile Sem Op Lib Jvm.Free Jvm.Stand Jvm.Pilot.@@N@@.Jvm.D
/-! MADE BY PROGRAM (witnessworld.py) out of the Statement's table words and the real class files: 18 classes; the members and pool entries that the words name. The judged class is class 1, her method 3. -/
namespace start1
open Jvm.ClassFile
def u (s : String) : CpInfo := .utf8 (stringToUtf16 s)
/-- a pool by its gaps: so many unusable entries, then the entry; so many at the end -/
def gap : Nat → List CpInfo → List CpInfo
  | 0, r => r
  | n + 1, r => .unusable :: gap n r
def poolList (es : List (Nat × CpInfo)) (last : Nat) : List CpInfo := es.foldr (fun e r => gap e.1 (e.2 :: r)) (gap last [])
def pool (es : List (Nat × CpInfo)) (last : Nat) : Array CpInfo := ⟨poolList es last⟩
def fileOf (pool : Array CpInfo) (this : Nat) (attrs : Array Attribute := #[]) (ms : Array MethodInfo := #[]) (fl : Nat := 33) (sup : Nat := 0) (ifs : Array Nat := #[]) (fds : Array FieldInfo := #[]) : ClassFile where
  minorVersion := 0
  majorVersion := 65
  constantPool := pool
  accessFlags := fl
  thisClass := this
  superClass := sup
  interfaces := ifs
  fields := fds
  methods := ms
  attributes := attrs
def plain (name : String) (sup : Option ClassId) : Class where
  name := name
  kind := .ordinary
  loader := none
  accessFlags := 33
  super := sup
  interfaces := #[]
  cf := none
  fields := #[]
  methods := #[]
  instanceTypes := #[]
  staticTypes := #[]
  resolved := #[]
  callSites := []
  init := .initialized
  statics := none
  mirror := none

def pool0 : Array CpInfo := pool [(5, u "<init>"), (0, u "()V"), (1, .class_ 10), (1, u "java/lang/Object")] 113

def k0c0 : Code := { maxStack := 0, maxLocals := 1, code := object_method_1_code, exceptionTable := #[], attributes := #[] }
def k0m0 : Method := { name := "<init>", desc := "()V", sig := { parameters := [], returnType := none }, accessFlags := 1, code := some k0c0 }
/-- java/lang/Object -/
def k0 : Class := { plain "java/lang/Object" none with
  accessFlags := 33
  interfaces := #[]
  cf := some (fileOf pool0 8 #[] #[{ accessFlags := 1, nameIndex := 5, descriptorIndex := 6, attributes := #[] }] 33 0 #[] #[])
  fields := #[]
  methods := #[k0m0]
  instanceTypes := #[]
  staticTypes := #[]
  resolved := Array.replicate 124 none
  statics := none }

def pool1 : Array CpInfo := pool [(2, .class_ 4), (0, .nameAndType 5 6), (0, u "java/lang/Object"), (0, u "<init>"), (0, u "()V"), (0, .class_ 8), (0, u "java/lang/Integer"), (0, .integer 2147483648), (0, .long 4294967295), (1, .methodref 13 14), (0, .class_ 15), (0, .nameAndType 16 17), (0, u "com/example/mullion/mullion/service/DyadicTrieIsEmptyPinLaw"), (0, u "start"), (0, u "(II)J"), (0, .methodref 13 19), (0, .nameAndType 20 21), (0, u "same"), (0, u "(IIII)Z"), (0, .class_ 23), (0, u "com/example/mullion/mullion/service/DyadicTrie"), (0, .methodref 22 3), (0, .methodref 22 26), (0, .nameAndType 27 28), (0, u "isEmpty"), (0, u "()Z"), (0, .methodref 7 30), (0, .nameAndType 31 32), (0, u "valueOf"), (0, u "(I)Ljava/lang/Integer;"), (0, .methodref 22 34), (0, .nameAndType 35 36), (0, u "put"), (0, u "(IILjava/lang/Object;)V"), (0, .methodref 22 38), (0, .nameAndType 39 40), (0, u "remove"), (0, u "(II)V"), (3, u "law")] 2

def k1m0 : Method := { name := "<init>", desc := "()V", sig := { parameters := [], returnType := none }, accessFlags := 1, code := none }
def k1c1 : Code := { maxStack := 4, maxLocals := 4, code := method_2_code, exceptionTable := #[], attributes := #[] }
def k1m1 : Method := { name := "start", desc := "(II)J", sig := { parameters := [.int, .int], returnType := some .long }, accessFlags := 10, code := some k1c1 }
def k1c2 : Code := { maxStack := 4, maxLocals := 4, code := method_3_code, exceptionTable := #[], attributes := #[] }
def k1m2 : Method := { name := "same", desc := "(IIII)Z", sig := { parameters := [.int, .int, .int, .int], returnType := some .boolean }, accessFlags := 10, code := some k1c2 }
def k1c3 : Code := { maxStack := 4, maxLocals := 19, code := code, exceptionTable := #[], attributes := #[] }
def k1m3 : Method := { name := "law", desc := "(IIII)Z", sig := { parameters := [.int, .int, .int, .int], returnType := some .boolean }, accessFlags := 9, code := some k1c3 }
/-- com/example/mullion/mullion/service/DyadicTrieIsEmptyPinLaw -/
def k1 : Class := { plain "com/example/mullion/mullion/service/DyadicTrieIsEmptyPinLaw" (some 0) with
  accessFlags := 49
  interfaces := #[]
  cf := some (fileOf pool1 13 #[] #[{ accessFlags := 1, nameIndex := 5, descriptorIndex := 6, attributes := #[] }, { accessFlags := 10, nameIndex := 16, descriptorIndex := 17, attributes := #[] }, { accessFlags := 10, nameIndex := 20, descriptorIndex := 21, attributes := #[] }, { accessFlags := 9, nameIndex := 44, descriptorIndex := 21, attributes := #[] }] 49 2 #[] #[])
  fields := #[]
  methods := #[k1m0, k1m1, k1m2, k1m3]
  instanceTypes := #[]
  staticTypes := #[]
  resolved := Array.replicate 47 none
  statics := none }

def pool2 : Array CpInfo := pool [(1, .methodref 2 3), (0, .class_ 4), (0, .nameAndType 5 6), (0, u "java/lang/Object"), (0, u "<init>"), (0, u "()V"), (0, .methodref 8 9), (0, .class_ 10), (0, .nameAndType 11 12), (0, u "com/example/mullion/mullion/service/DyadicTrie"), (0, u "counted"), (0, u "(I)J"), (0, .methodref 8 14), (0, .nameAndType 15 16), (0, u "levelHolding"), (0, u "(JJ)I"), (0, .fieldref 8 18), (0, .nameAndType 19 20), (0, u "root"), (0, u "Lcom/example/mullion/mullion/service/DyadicTrie$Node;"), (1, .class_ 24), (1, u "com/example/mullion/mullion/service/DyadicTrie$Node"), (1, u "(J)Z"), (0, .methodref 8 28), (0, .nameAndType 29 30), (0, u "startOf"), (0, u "(II)J"), (0, .methodref 22 32), (0, .nameAndType 33 34), (0, u "isWiderThan"), (0, u "(IJ)Z"), (0, .methodref 22 36), (0, .nameAndType 37 38), (0, u "toward"), (0, u "(J)Lcom/example/mullion/mullion/service/DyadicTrie$Node;"), (0, .methodref 22 40), (0, .nameAndType 41 34), (0, u "isAt"), (0, .fieldref 22 43), (0, .nameAndType 44 45), (0, u "value"), (0, u "Ljava/lang/Object;"), (0, .methodref 22 47), (0, .nameAndType 5 48), (0, u "(IJLjava/lang/Object;)V"), (0, .fieldref 22 50), (0, .nameAndType 51 52), (0, u "level"), (0, u "I"), (0, .fieldref 22 54), (0, .nameAndType 55 56), (0, u "start"), (0, u "J"), (0, .methodref 22 58), (0, .nameAndType 59 60), (0, u "attach"), (0, u "(Lcom/example/mullion/mullion/service/DyadicTrie$Node;)V"), (0, .methodref 8 62), (0, .nameAndType 63 64), (0, u "link"), (0, u "(Lcom/example/mullion/mullion/service/DyadicTrie$Node;JLcom/example/mullion/mullion/service/DyadicTrie$Node;)V"), (0, .fieldref 22 66), (0, .nameAndType 67 20), (0, u "low"), (0, .fieldref 22 69), (0, .nameAndType 70 20), (0, u "high"), (0, .methodref 22 72), (0, .nameAndType 73 74), (0, u "onlyChild"), (0, u "()Lcom/example/mullion/mullion/service/DyadicTrie$Node;"), (0, .methodref 22 76), (0, .nameAndType 77 26), (0, u "isLowerHalf"), (0, .class_ 79), (0, u "java/lang/Long"), (0, .methodref 78 81), (0, .nameAndType 82 83), (0, u "numberOfLeadingZeros"), (0, u "(J)I"), (0, .class_ 85), (0, u "java/lang/Integer"), (0, .integer 2147483648), (0, .methodref 84 88), (0, .nameAndType 89 12), (0, u "toUnsignedLong"), (5, u "isEmpty"), (0, u "()Z"), (7, u "put"), (0, u "(IILjava/lang/Object;)V"), (1, u "remove"), (0, u "(II)V")] 8

def k2c0 : Code := { maxStack := 1, maxLocals := 1, code := prog_41_method_1_code, exceptionTable := #[], attributes := #[] }
def k2m0 : Method := { name := "<init>", desc := "()V", sig := { parameters := [], returnType := none }, accessFlags := 0, code := some k2c0 }
def k2c1 : Code := { maxStack := 1, maxLocals := 1, code := prog_41_method_3_code, exceptionTable := #[], attributes := #[] }
def k2m1 : Method := { name := "isEmpty", desc := "()Z", sig := { parameters := [], returnType := some .boolean }, accessFlags := 0, code := some k2c1 }
def k2c2 : Code := { maxStack := 6, maxLocals := 11, code := prog_41_method_6_code, exceptionTable := #[], attributes := #[] }
def k2m2 : Method := { name := "put", desc := "(IILjava/lang/Object;)V", sig := { parameters := [.int, .int, (.object "java/lang/Object")], returnType := none }, accessFlags := 0, code := some k2c2 }
def k2c3 : Code := { maxStack := 5, maxLocals := 9, code := prog_41_method_7_code, exceptionTable := #[], attributes := #[] }
def k2m3 : Method := { name := "remove", desc := "(II)V", sig := { parameters := [.int, .int], returnType := none }, accessFlags := 0, code := some k2c3 }
def k2c4 : Code := { maxStack := 3, maxLocals := 5, code := prog_41_method_8_code, exceptionTable := #[], attributes := #[] }
def k2m4 : Method := { name := "link", desc := "(Lcom/example/mullion/mullion/service/DyadicTrie$Node;JLcom/example/mullion/mullion/service/DyadicTrie$Node;)V", sig := { parameters := [(.object "com/example/mullion/mullion/service/DyadicTrie$Node"), .long, (.object "com/example/mullion/mullion/service/DyadicTrie$Node")], returnType := none }, accessFlags := 2, code := some k2c4 }
def k2c5 : Code := { maxStack := 5, maxLocals := 4, code := prog_41_method_9_code, exceptionTable := #[], attributes := #[] }
def k2m5 : Method := { name := "levelHolding", desc := "(JJ)I", sig := { parameters := [.long, .long], returnType := some .int }, accessFlags := 10, code := some k2c5 }
def k2c6 : Code := { maxStack := 3, maxLocals := 2, code := prog_41_method_10_code, exceptionTable := #[], attributes := #[] }
def k2m6 : Method := { name := "startOf", desc := "(II)J", sig := { parameters := [.int, .int], returnType := some .long }, accessFlags := 10, code := some k2c6 }
def k2c7 : Code := { maxStack := 2, maxLocals := 1, code := prog_41_method_11_code, exceptionTable := #[], attributes := #[] }
def k2m7 : Method := { name := "counted", desc := "(I)J", sig := { parameters := [.int], returnType := some .long }, accessFlags := 10, code := some k2c7 }
/-- com/example/mullion/mullion/service/DyadicTrie -/
def k2 : Class := { plain "com/example/mullion/mullion/service/DyadicTrie" (some 0) with
  accessFlags := 48
  interfaces := #[]
  cf := some (fileOf pool2 8 #[.nestMembers #[22]] #[{ accessFlags := 0, nameIndex := 5, descriptorIndex := 6, attributes := #[] }, { accessFlags := 0, nameIndex := 95, descriptorIndex := 96, attributes := #[] }, { accessFlags := 0, nameIndex := 104, descriptorIndex := 105, attributes := #[] }, { accessFlags := 0, nameIndex := 107, descriptorIndex := 108, attributes := #[] }, { accessFlags := 2, nameIndex := 63, descriptorIndex := 64, attributes := #[] }, { accessFlags := 10, nameIndex := 15, descriptorIndex := 16, attributes := #[] }, { accessFlags := 10, nameIndex := 29, descriptorIndex := 30, attributes := #[] }, { accessFlags := 10, nameIndex := 11, descriptorIndex := 12, attributes := #[] }] 48 2 #[] #[{ accessFlags := 2, nameIndex := 19, descriptorIndex := 20, attributes := #[] }])
  fields := #[{ name := "root", type := (.object "com/example/mullion/mullion/service/DyadicTrie$Node"), accessFlags := 2, slot := 0, constantValue := 0 }]
  methods := #[k2m0, k2m1, k2m2, k2m3, k2m4, k2m5, k2m6, k2m7]
  instanceTypes := #[(.object "com/example/mullion/mullion/service/DyadicTrie$Node")]
  staticTypes := #[]
  resolved := (((((((((((((Array.replicate 117 none).setIfInBounds 22 (some (.cls 10))).setIfInBounds 31 (some (.method ⟨10, 2⟩))).setIfInBounds 35 (some (.method ⟨10, 4⟩))).setIfInBounds 39 (some (.method ⟨10, 3⟩))).setIfInBounds 42 (some (.field 10 4))).setIfInBounds 46 (some (.method ⟨10, 0⟩))).setIfInBounds 49 (some (.field 10 0))).setIfInBounds 53 (some (.field 10 1))).setIfInBounds 57 (some (.method ⟨10, 6⟩))).setIfInBounds 65 (some (.field 10 2))).setIfInBounds 68 (some (.field 10 3))).setIfInBounds 71 (some (.method ⟨10, 7⟩))).setIfInBounds 75 (some (.method ⟨10, 5⟩))
  statics := none }

def pool3 : Array CpInfo := pool [(1, .class_ 2), (0, u "java/io/Serializable"), (0, .class_ 4), (0, u "java/lang/Object")] 2

/-- java/io/Serializable -/
def k3 : Class := { plain "java/io/Serializable" (some 0) with
  accessFlags := 1537
  interfaces := #[]
  cf := some (fileOf pool3 1 #[] #[] 1537 3 #[] #[])
  fields := #[]
  methods := #[]
  instanceTypes := #[]
  staticTypes := #[]
  resolved := Array.replicate 7 none
  statics := none }

def pool4 : Array CpInfo := pool [(2, .class_ 4), (1, u "java/lang/Object"), (0, u "<init>"), (0, u "()V"), (1, .class_ 10), (1, u "java/lang/Number"), (2, .class_ 14), (0, u "java/io/Serializable"), (0, u "serialVersionUID"), (0, u "J")] 20

def k4m0 : Method := { name := "<init>", desc := "()V", sig := { parameters := [], returnType := none }, accessFlags := 1, code := none }
/-- java/lang/Number -/
def k4 : Class := { plain "java/lang/Number" (some 0) with
  accessFlags := 1057
  interfaces := #[3]
  cf := some (fileOf pool4 8 #[] #[{ accessFlags := 1, nameIndex := 5, descriptorIndex := 6, attributes := #[] }] 1057 2 #[13] #[{ accessFlags := 26, nameIndex := 15, descriptorIndex := 16, attributes := #[] }])
  fields := #[{ name := "serialVersionUID", type := .long, accessFlags := 26, slot := 0, constantValue := 0 }]
  methods := #[k4m0]
  instanceTypes := #[]
  staticTypes := #[.long]
  resolved := Array.replicate 37 none
  statics := none }

def pool5 : Array CpInfo := pool [(1, .class_ 2), (0, u "java/lang/Comparable"), (0, .class_ 4), (0, u "java/lang/Object")] 7

/-- java/lang/Comparable -/
def k5 : Class := { plain "java/lang/Comparable" (some 0) with
  accessFlags := 1537
  interfaces := #[]
  cf := some (fileOf pool5 1 #[] #[] 1537 3 #[] #[])
  fields := #[]
  methods := #[]
  instanceTypes := #[]
  staticTypes := #[]
  resolved := Array.replicate 12 none
  statics := none }

def pool6 : Array CpInfo := pool [(1, .class_ 2), (0, u "java/lang/constant/Constable"), (0, .class_ 4), (0, u "java/lang/Object")] 6

/-- java/lang/constant/Constable -/
def k6 : Class := { plain "java/lang/constant/Constable" (some 0) with
  accessFlags := 1537
  interfaces := #[]
  cf := some (fileOf pool6 1 #[] #[] 1537 3 #[] #[])
  fields := #[]
  methods := #[]
  instanceTypes := #[]
  staticTypes := #[]
  resolved := Array.replicate 11 none
  statics := none }

def pool7 : Array CpInfo := pool [(1, .class_ 2), (0, u "java/lang/constant/ConstantDesc"), (0, .class_ 4), (0, u "java/lang/Object")] 32

/-- java/lang/constant/ConstantDesc -/
def k7 : Class := { plain "java/lang/constant/ConstantDesc" (some 0) with
  accessFlags := 1537
  interfaces := #[]
  cf := some (fileOf pool7 1 #[] #[] 1537 3 #[] #[])
  fields := #[]
  methods := #[]
  instanceTypes := #[]
  staticTypes := #[]
  resolved := Array.replicate 37 none
  statics := none }

def pool8 : Array CpInfo := pool [(1, .class_ 2), (0, u "java/lang/Integer"), (16, u "digits"), (0, u "[C"), (19, u "toUnsignedLong"), (0, u "(I)J"), (11, u "numberOfLeadingZeros"), (0, u "(I)I"), (30, u "DigitOnes"), (0, u "[B"), (2, u "DigitTens"), (97, u "valueOf"), (0, u "(I)Ljava/lang/Integer;"), (0, .class_ 190), (0, u "java/lang/Integer$IntegerCache"), (0, .fieldref 189 192), (0, .nameAndType 193 194), (0, u "high"), (0, u "I"), (0, .fieldref 189 196), (0, .nameAndType 197 198), (0, u "cache"), (0, u "[Ljava/lang/Integer;"), (4, .class_ 204), (0, u "java/lang/Number"), (2, u "value"), (54, .long 4294967295), (1, .integer 65536), (37, u "TYPE"), (0, u "Ljava/lang/Class;"), (0, .class_ 305), (0, u "java/lang/Comparable"), (0, .class_ 307), (0, u "java/lang/constant/Constable"), (0, .class_ 309), (0, u "java/lang/constant/ConstantDesc"), (0, u "MIN_VALUE"), (1, u "MAX_VALUE"), (3, u "SIZE"), (1, u "BYTES"), (1, u "serialVersionUID"), (0, u "J")] 131

def k8c0 : Code := { maxStack := 3, maxLocals := 1, code := jdk_33_method_22_code, exceptionTable := #[], attributes := #[] }
def k8m0 : Method := { name := "valueOf", desc := "(I)Ljava/lang/Integer;", sig := { parameters := [.int], returnType := some (.object "java/lang/Integer") }, accessFlags := 9, code := some k8c0 }
def k8c1 : Code := { maxStack := 4, maxLocals := 1, code := jdk_33_method_42_code, exceptionTable := #[], attributes := #[] }
def k8m1 : Method := { name := "toUnsignedLong", desc := "(I)J", sig := { parameters := [.int], returnType := some .long }, accessFlags := 9, code := some k8c1 }
def k8c2 : Code := { maxStack := 3, maxLocals := 2, code := jdk_33_method_47_code, exceptionTable := #[], attributes := #[] }
def k8m2 : Method := { name := "numberOfLeadingZeros", desc := "(I)I", sig := { parameters := [.int], returnType := some .int }, accessFlags := 9, code := some k8c2 }
/-- java/lang/Integer -/
def k8 : Class := { plain "java/lang/Integer" (some 4) with
  accessFlags := 49
  interfaces := #[5, 6, 7]
  cf := some (fileOf pool8 1 #[.nestMembers #[189]] #[{ accessFlags := 9, nameIndex := 187, descriptorIndex := 188, attributes := #[] }, { accessFlags := 9, nameIndex := 40, descriptorIndex := 41, attributes := #[] }, { accessFlags := 9, nameIndex := 53, descriptorIndex := 54, attributes := #[] }] 49 203 #[304, 306, 308] #[{ accessFlags := 25, nameIndex := 310, descriptorIndex := 194, attributes := #[] }, { accessFlags := 25, nameIndex := 312, descriptorIndex := 194, attributes := #[] }, { accessFlags := 25, nameIndex := 302, descriptorIndex := 303, attributes := #[] }, { accessFlags := 24, nameIndex := 19, descriptorIndex := 20, attributes := #[] }, { accessFlags := 24, nameIndex := 89, descriptorIndex := 86, attributes := #[] }, { accessFlags := 24, nameIndex := 85, descriptorIndex := 86, attributes := #[] }, { accessFlags := 18, nameIndex := 207, descriptorIndex := 194, attributes := #[] }, { accessFlags := 25, nameIndex := 316, descriptorIndex := 194, attributes := #[] }, { accessFlags := 25, nameIndex := 318, descriptorIndex := 194, attributes := #[] }, { accessFlags := 26, nameIndex := 320, descriptorIndex := 321, attributes := #[] }])
  fields := #[{ name := "MIN_VALUE", type := .int, accessFlags := 25, slot := 0, constantValue := 0 }, { name := "MAX_VALUE", type := .int, accessFlags := 25, slot := 1, constantValue := 0 }, { name := "TYPE", type := (.object "java/lang/Class"), accessFlags := 25, slot := 2, constantValue := 0 }, { name := "digits", type := (.array .char), accessFlags := 24, slot := 3, constantValue := 0 }, { name := "DigitTens", type := (.array .byte), accessFlags := 24, slot := 4, constantValue := 0 }, { name := "DigitOnes", type := (.array .byte), accessFlags := 24, slot := 5, constantValue := 0 }, { name := "value", type := .int, accessFlags := 18, slot := 0, constantValue := 0 }, { name := "SIZE", type := .int, accessFlags := 25, slot := 6, constantValue := 0 }, { name := "BYTES", type := .int, accessFlags := 25, slot := 7, constantValue := 0 }, { name := "serialVersionUID", type := .long, accessFlags := 26, slot := 8, constantValue := 0 }]
  methods := #[k8m0, k8m1, k8m2]
  instanceTypes := #[.int]
  staticTypes := #[.int, .int, (.object "java/lang/Class"), (.array .char), (.array .byte), (.array .byte), .int, .int, .long]
  resolved := Array.replicate 453 none
  statics := none }

def pool9 : Array CpInfo := pool [(2, .class_ 4), (1, u "java/lang/Object"), (0, u "<init>"), (0, u "()V"), (0, .class_ 8), (0, u "java/lang/Integer"), (7, .class_ 18), (1, u "java/lang/Integer$IntegerCache"), (0, u "$assertionsDisabled"), (0, u "Z"), (26, u "high"), (0, u "I"), (8, u "archivedCache"), (0, u "[Ljava/lang/Integer;"), (12, u "cache"), (0, u "low")] 27

def k9m0 : Method := { name := "<init>", desc := "()V", sig := { parameters := [], returnType := none }, accessFlags := 2, code := none }
/-- java/lang/Integer$IntegerCache -/
def k9 : Class := { plain "java/lang/Integer$IntegerCache" (some 0) with
  accessFlags := 48
  interfaces := #[]
  cf := some (fileOf pool9 16 #[.nestHost 7] #[{ accessFlags := 2, nameIndex := 5, descriptorIndex := 6, attributes := #[] }] 48 2 #[] #[{ accessFlags := 24, nameIndex := 72, descriptorIndex := 48, attributes := #[] }, { accessFlags := 24, nameIndex := 47, descriptorIndex := 48, attributes := #[] }, { accessFlags := 24, nameIndex := 71, descriptorIndex := 58, attributes := #[] }, { accessFlags := 8, nameIndex := 57, descriptorIndex := 58, attributes := #[] }, { accessFlags := 4120, nameIndex := 19, descriptorIndex := 20, attributes := #[] }])
  fields := #[{ name := "low", type := .int, accessFlags := 24, slot := 0, constantValue := 0 }, { name := "high", type := .int, accessFlags := 24, slot := 1, constantValue := 0 }, { name := "cache", type := (.array (.object "java/lang/Integer")), accessFlags := 24, slot := 2, constantValue := 0 }, { name := "archivedCache", type := (.array (.object "java/lang/Integer")), accessFlags := 8, slot := 3, constantValue := 0 }, { name := "$assertionsDisabled", type := .boolean, accessFlags := 4120, slot := 4, constantValue := 0 }]
  methods := #[k9m0]
  instanceTypes := #[]
  staticTypes := #[.int, .int, (.array (.object "java/lang/Integer")), (.array (.object "java/lang/Integer")), .boolean]
  resolved := Array.replicate 100 none
  statics := some 0 }

def pool10 : Array CpInfo := pool [(1, .methodref 2 3), (0, .class_ 4), (0, .nameAndType 5 6), (0, u "java/lang/Object"), (0, u "<init>"), (0, u "()V"), (0, .fieldref 8 9), (0, .class_ 10), (0, .nameAndType 11 12), (0, u "com/example/mullion/mullion/service/DyadicTrie$Node"), (0, u "level"), (0, u "I"), (0, .fieldref 8 14), (0, .nameAndType 15 16), (0, u "start"), (0, u "J"), (0, .fieldref 8 18), (0, .nameAndType 19 20), (0, u "value"), (0, u "Ljava/lang/Object;"), (1, .class_ 24), (1, u "com/example/mullion/mullion/service/DyadicTrie"), (8, u "toward"), (0, u "(J)Lcom/example/mullion/mullion/service/DyadicTrie$Node;"), (0, .methodref 8 36), (0, .nameAndType 37 38), (0, u "holds"), (0, u "(J)Z"), (0, .methodref 8 40), (0, .nameAndType 41 38), (0, u "isLowerHalf"), (0, .fieldref 8 43), (0, .nameAndType 44 45), (0, u "low"), (0, u "Lcom/example/mullion/mullion/service/DyadicTrie$Node;"), (0, .fieldref 8 47), (0, .nameAndType 48 45), (0, u "high"), (3, u "(IJLjava/lang/Object;)V"), (11, u "isWiderThan"), (0, u "(IJ)Z"), (0, u "isAt"), (1, u "attach"), (0, u "(Lcom/example/mullion/mullion/service/DyadicTrie$Node;)V"), (1, u "onlyChild"), (0, u "()Lcom/example/mullion/mullion/service/DyadicTrie$Node;")] 7

def k10c0 : Code := { maxStack := 3, maxLocals := 5, code := prog_42_method_1_code, exceptionTable := #[], attributes := #[] }
def k10m0 : Method := { name := "<init>", desc := "(IJLjava/lang/Object;)V", sig := { parameters := [.int, .long, (.object "java/lang/Object")], returnType := none }, accessFlags := 2, code := some k10c0 }
def k10c1 : Code := { maxStack := 5, maxLocals := 3, code := prog_42_method_5_code, exceptionTable := #[], attributes := #[] }
def k10m1 : Method := { name := "holds", desc := "(J)Z", sig := { parameters := [.long], returnType := some .boolean }, accessFlags := 2, code := some k10c1 }
def k10c2 : Code := { maxStack := 3, maxLocals := 4, code := prog_42_method_6_code, exceptionTable := #[], attributes := #[] }
def k10m2 : Method := { name := "isWiderThan", desc := "(IJ)Z", sig := { parameters := [.int, .long], returnType := some .boolean }, accessFlags := 2, code := some k10c2 }
def k10c3 : Code := { maxStack := 4, maxLocals := 4, code := prog_42_method_7_code, exceptionTable := #[], attributes := #[] }
def k10m3 : Method := { name := "isAt", desc := "(IJ)Z", sig := { parameters := [.int, .long], returnType := some .boolean }, accessFlags := 2, code := some k10c3 }
def k10c4 : Code := { maxStack := 3, maxLocals := 3, code := prog_42_method_8_code, exceptionTable := #[], attributes := #[] }
def k10m4 : Method := { name := "toward", desc := "(J)Lcom/example/mullion/mullion/service/DyadicTrie$Node;", sig := { parameters := [.long], returnType := some (.object "com/example/mullion/mullion/service/DyadicTrie$Node") }, accessFlags := 2, code := some k10c4 }
def k10c5 : Code := { maxStack := 6, maxLocals := 3, code := prog_42_method_9_code, exceptionTable := #[], attributes := #[] }
def k10m5 : Method := { name := "isLowerHalf", desc := "(J)Z", sig := { parameters := [.long], returnType := some .boolean }, accessFlags := 2, code := some k10c5 }
def k10c6 : Code := { maxStack := 3, maxLocals := 2, code := prog_42_method_10_code, exceptionTable := #[], attributes := #[] }
def k10m6 : Method := { name := "attach", desc := "(Lcom/example/mullion/mullion/service/DyadicTrie$Node;)V", sig := { parameters := [(.object "com/example/mullion/mullion/service/DyadicTrie$Node")], returnType := none }, accessFlags := 2, code := some k10c6 }
def k10c7 : Code := { maxStack := 1, maxLocals := 1, code := prog_42_method_11_code, exceptionTable := #[], attributes := #[] }
def k10m7 : Method := { name := "onlyChild", desc := "()Lcom/example/mullion/mullion/service/DyadicTrie$Node;", sig := { parameters := [], returnType := some (.object "com/example/mullion/mullion/service/DyadicTrie$Node") }, accessFlags := 2, code := some k10c7 }
/-- com/example/mullion/mullion/service/DyadicTrie$Node -/
def k10 : Class := { plain "com/example/mullion/mullion/service/DyadicTrie$Node" (some 0) with
  accessFlags := 48
  interfaces := #[]
  cf := some (fileOf pool10 8 #[.nestHost 22] #[{ accessFlags := 2, nameIndex := 5, descriptorIndex := 52, attributes := #[] }, { accessFlags := 2, nameIndex := 37, descriptorIndex := 38, attributes := #[] }, { accessFlags := 2, nameIndex := 64, descriptorIndex := 65, attributes := #[] }, { accessFlags := 2, nameIndex := 66, descriptorIndex := 65, attributes := #[] }, { accessFlags := 2, nameIndex := 33, descriptorIndex := 34, attributes := #[] }, { accessFlags := 2, nameIndex := 41, descriptorIndex := 38, attributes := #[] }, { accessFlags := 2, nameIndex := 68, descriptorIndex := 69, attributes := #[] }, { accessFlags := 2, nameIndex := 71, descriptorIndex := 72, attributes := #[] }] 48 2 #[] #[{ accessFlags := 18, nameIndex := 11, descriptorIndex := 12, attributes := #[] }, { accessFlags := 18, nameIndex := 15, descriptorIndex := 16, attributes := #[] }, { accessFlags := 2, nameIndex := 44, descriptorIndex := 45, attributes := #[] }, { accessFlags := 2, nameIndex := 48, descriptorIndex := 45, attributes := #[] }, { accessFlags := 2, nameIndex := 19, descriptorIndex := 20, attributes := #[] }])
  fields := #[{ name := "level", type := .int, accessFlags := 18, slot := 0, constantValue := 0 }, { name := "start", type := .long, accessFlags := 18, slot := 1, constantValue := 0 }, { name := "low", type := (.object "com/example/mullion/mullion/service/DyadicTrie$Node"), accessFlags := 2, slot := 2, constantValue := 0 }, { name := "high", type := (.object "com/example/mullion/mullion/service/DyadicTrie$Node"), accessFlags := 2, slot := 3, constantValue := 0 }, { name := "value", type := (.object "java/lang/Object"), accessFlags := 2, slot := 4, constantValue := 0 }]
  methods := #[k10m0, k10m1, k10m2, k10m3, k10m4, k10m5, k10m6, k10m7]
  instanceTypes := #[.int, .long, (.object "com/example/mullion/mullion/service/DyadicTrie$Node"), (.object "com/example/mullion/mullion/service/DyadicTrie$Node"), (.object "java/lang/Object")]
  staticTypes := #[]
  resolved := Array.replicate 80 none
  statics := none }

def pool11 : Array CpInfo := pool [(1, .class_ 2), (0, u "java/lang/Long"), (15, .class_ 20), (1, u "java/lang/Integer"), (79, u "numberOfLeadingZeros"), (0, u "(J)I"), (133, .class_ 237), (1, u "java/lang/Long$LongCache"), (33, .class_ 272), (0, u "java/lang/Number"), (2, u "value"), (0, u "J"), (31, .methodref 18 309), (0, .nameAndType 100 310), (0, u "(I)I"), (50, u "TYPE"), (0, u "Ljava/lang/Class;"), (0, .class_ 364), (0, u "java/lang/Comparable"), (0, .class_ 366), (0, u "java/lang/constant/Constable"), (0, .class_ 368), (0, u "java/lang/constant/ConstantDesc"), (0, u "MIN_VALUE"), (1, u "MAX_VALUE"), (4, u "SIZE"), (0, u "I"), (1, u "BYTES"), (1, u "serialVersionUID")] 142

def k11c0 : Code := { maxStack := 3, maxLocals := 3, code := jdk_35_method_48_code, exceptionTable := #[], attributes := #[] }
def k11m0 : Method := { name := "numberOfLeadingZeros", desc := "(J)I", sig := { parameters := [.long], returnType := some .int }, accessFlags := 9, code := some k11c0 }
/-- java/lang/Long -/
def k11 : Class := { plain "java/lang/Long" (some 4) with
  accessFlags := 49
  interfaces := #[5, 6, 7]
  cf := some (fileOf pool11 1 #[.nestMembers #[235]] #[{ accessFlags := 9, nameIndex := 100, descriptorIndex := 101, attributes := #[] }] 49 271 #[363, 365, 367] #[{ accessFlags := 25, nameIndex := 369, descriptorIndex := 276, attributes := #[] }, { accessFlags := 25, nameIndex := 371, descriptorIndex := 276, attributes := #[] }, { accessFlags := 25, nameIndex := 361, descriptorIndex := 362, attributes := #[] }, { accessFlags := 18, nameIndex := 275, descriptorIndex := 276, attributes := #[] }, { accessFlags := 25, nameIndex := 376, descriptorIndex := 377, attributes := #[] }, { accessFlags := 25, nameIndex := 379, descriptorIndex := 377, attributes := #[] }, { accessFlags := 26, nameIndex := 381, descriptorIndex := 276, attributes := #[] }])
  fields := #[{ name := "MIN_VALUE", type := .long, accessFlags := 25, slot := 0, constantValue := 0 }, { name := "MAX_VALUE", type := .long, accessFlags := 25, slot := 1, constantValue := 0 }, { name := "TYPE", type := (.object "java/lang/Class"), accessFlags := 25, slot := 2, constantValue := 0 }, { name := "value", type := .long, accessFlags := 18, slot := 0, constantValue := 0 }, { name := "SIZE", type := .int, accessFlags := 25, slot := 3, constantValue := 0 }, { name := "BYTES", type := .int, accessFlags := 25, slot := 4, constantValue := 0 }, { name := "serialVersionUID", type := .long, accessFlags := 26, slot := 5, constantValue := 0 }]
  methods := #[k11m0]
  instanceTypes := #[.long]
  staticTypes := #[.long, .long, (.object "java/lang/Class"), .int, .int, .long]
  resolved := Array.replicate 524 none
  statics := none }

def pool12 : Array CpInfo := pool [(1, u "java/lang/Cloneable"), (0, .class_ 1), (0, u "java/lang/Object"), (0, .class_ 3)] 3

/-- java/lang/Cloneable -/
def k12 : Class := { plain "java/lang/Cloneable" (some 0) with
  accessFlags := 1537
  interfaces := #[]
  cf := some (fileOf pool12 2 #[] #[] 1537 4 #[] #[])
  fields := #[]
  methods := #[]
  instanceTypes := #[]
  staticTypes := #[]
  resolved := Array.replicate 8 none
  statics := none }

/-- the primitive byte -/
def k13 : Class := { plain "byte" none with kind := .primitive 'B', accessFlags := 0x411 }
/-- [B -/
def k14 : Class := { plain "[B" (some 0) with kind := .array 13 .byte, interfaces := #[12, 3], accessFlags := 1041 }

/-- the primitive int -/
def k15 : Class := { plain "int" none with kind := .primitive 'I', accessFlags := 0x411 }
/-- [I -/
def k16 : Class := { plain "[I" (some 0) with kind := .array 15 .int, interfaces := #[12, 3], accessFlags := 1041 }

/-- [Ljava/lang/Integer; -/
def k17 : Class := { plain "[Ljava/lang/Integer;" (some 0) with kind := .array 8 (.object "java/lang/Integer"), interfaces := #[12, 3], accessFlags := 1041 }

def heap : Heap := #[{ cls := 9, slots := #[.int 0, .int 127, .ref 1, .null, .int 0], vm := .statics 9 },
  { cls := 17, slots := #[.ref 2, .ref 3, .ref 4, .ref 5, .ref 6, .ref 7, .ref 8, .ref 9, .ref 10, .ref 11, .ref 12, .ref 13, .ref 14, .ref 15, .ref 16, .ref 17, .ref 18, .ref 19, .ref 20, .ref 21, .ref 22, .ref 23, .ref 24, .ref 25, .ref 26, .ref 27, .ref 28, .ref 29, .ref 30, .ref 31, .ref 32, .ref 33, .ref 34, .ref 35, .ref 36, .ref 37, .ref 38, .ref 39, .ref 40, .ref 41, .ref 42, .ref 43, .ref 44, .ref 45, .ref 46, .ref 47, .ref 48, .ref 49, .ref 50, .ref 51, .ref 52, .ref 53, .ref 54, .ref 55, .ref 56, .ref 57, .ref 58, .ref 59, .ref 60, .ref 61, .ref 62, .ref 63, .ref 64, .ref 65, .ref 66, .ref 67, .ref 68, .ref 69, .ref 70, .ref 71, .ref 72, .ref 73, .ref 74, .ref 75, .ref 76, .ref 77, .ref 78, .ref 79, .ref 80, .ref 81, .ref 82, .ref 83, .ref 84, .ref 85, .ref 86, .ref 87, .ref 88, .ref 89, .ref 90, .ref 91, .ref 92, .ref 93, .ref 94, .ref 95, .ref 96, .ref 97, .ref 98, .ref 99, .ref 100, .ref 101, .ref 102, .ref 103, .ref 104, .ref 105, .ref 106, .ref 107, .ref 108, .ref 109, .ref 110, .ref 111, .ref 112, .ref 113, .ref 114, .ref 115, .ref 116, .ref 117, .ref 118, .ref 119, .ref 120, .ref 121, .ref 122, .ref 123, .ref 124, .ref 125, .ref 126, .ref 127, .ref 128, .ref 129, .ref 130, .ref 131, .ref 132, .ref 133, .ref 134, .ref 135, .ref 136, .ref 137, .ref 138, .ref 139, .ref 140, .ref 141, .ref 142, .ref 143, .ref 144, .ref 145, .ref 146, .ref 147, .ref 148, .ref 149, .ref 150, .ref 151, .ref 152, .ref 153, .ref 154, .ref 155, .ref 156, .ref 157, .ref 158, .ref 159, .ref 160, .ref 161, .ref 162, .ref 163, .ref 164, .ref 165, .ref 166, .ref 167, .ref 168, .ref 169, .ref 170, .ref 171, .ref 172, .ref 173, .ref 174, .ref 175, .ref 176, .ref 177, .ref 178, .ref 179, .ref 180, .ref 181, .ref 182, .ref 183, .ref 184, .ref 185, .ref 186, .ref 187, .ref 188, .ref 189, .ref 190, .ref 191, .ref 192, .ref 193, .ref 194, .ref 195, .ref 196, .ref 197, .ref 198, .ref 199, .ref 200, .ref 201, .ref 202, .ref 203, .ref 204, .ref 205, .ref 206, .ref 207, .ref 208, .ref 209, .ref 210, .ref 211, .ref 212, .ref 213, .ref 214, .ref 215, .ref 216, .ref 217, .ref 218, .ref 219, .ref 220, .ref 221, .ref 222, .ref 223, .ref 224, .ref 225, .ref 226, .ref 227, .ref 228, .ref 229, .ref 230, .ref 231, .ref 232, .ref 233, .ref 234, .ref 235, .ref 236, .ref 237, .ref 238, .ref 239, .ref 240, .ref 241, .ref 242, .ref 243, .ref 244, .ref 245, .ref 246, .ref 247, .ref 248, .ref 249, .ref 250, .ref 251, .ref 252, .ref 253, .ref 254, .ref 255, .ref 256, .ref 257], vm := .none },
  { cls := 8, slots := #[.int (-128)], vm := .none },
  { cls := 8, slots := #[.int (-127)], vm := .none },
  { cls := 8, slots := #[.int (-126)], vm := .none },
  { cls := 8, slots := #[.int (-125)], vm := .none },
  { cls := 8, slots := #[.int (-124)], vm := .none },
  { cls := 8, slots := #[.int (-123)], vm := .none },
  { cls := 8, slots := #[.int (-122)], vm := .none },
  { cls := 8, slots := #[.int (-121)], vm := .none },
  { cls := 8, slots := #[.int (-120)], vm := .none },
  { cls := 8, slots := #[.int (-119)], vm := .none },
  { cls := 8, slots := #[.int (-118)], vm := .none },
  { cls := 8, slots := #[.int (-117)], vm := .none },
  { cls := 8, slots := #[.int (-116)], vm := .none },
  { cls := 8, slots := #[.int (-115)], vm := .none },
  { cls := 8, slots := #[.int (-114)], vm := .none },
  { cls := 8, slots := #[.int (-113)], vm := .none },
  { cls := 8, slots := #[.int (-112)], vm := .none },
  { cls := 8, slots := #[.int (-111)], vm := .none },
  { cls := 8, slots := #[.int (-110)], vm := .none },
  { cls := 8, slots := #[.int (-109)], vm := .none },
  { cls := 8, slots := #[.int (-108)], vm := .none },
  { cls := 8, slots := #[.int (-107)], vm := .none },
  { cls := 8, slots := #[.int (-106)], vm := .none },
  { cls := 8, slots := #[.int (-105)], vm := .none },
  { cls := 8, slots := #[.int (-104)], vm := .none },
  { cls := 8, slots := #[.int (-103)], vm := .none },
  { cls := 8, slots := #[.int (-102)], vm := .none },
  { cls := 8, slots := #[.int (-101)], vm := .none },
  { cls := 8, slots := #[.int (-100)], vm := .none },
  { cls := 8, slots := #[.int (-99)], vm := .none },
  { cls := 8, slots := #[.int (-98)], vm := .none },
  { cls := 8, slots := #[.int (-97)], vm := .none },
  { cls := 8, slots := #[.int (-96)], vm := .none },
  { cls := 8, slots := #[.int (-95)], vm := .none },
  { cls := 8, slots := #[.int (-94)], vm := .none },
  { cls := 8, slots := #[.int (-93)], vm := .none },
  { cls := 8, slots := #[.int (-92)], vm := .none },
  { cls := 8, slots := #[.int (-91)], vm := .none },
  { cls := 8, slots := #[.int (-90)], vm := .none },
  { cls := 8, slots := #[.int (-89)], vm := .none },
  { cls := 8, slots := #[.int (-88)], vm := .none },
  { cls := 8, slots := #[.int (-87)], vm := .none },
  { cls := 8, slots := #[.int (-86)], vm := .none },
  { cls := 8, slots := #[.int (-85)], vm := .none },
  { cls := 8, slots := #[.int (-84)], vm := .none },
  { cls := 8, slots := #[.int (-83)], vm := .none },
  { cls := 8, slots := #[.int (-82)], vm := .none },
  { cls := 8, slots := #[.int (-81)], vm := .none },
  { cls := 8, slots := #[.int (-80)], vm := .none },
  { cls := 8, slots := #[.int (-79)], vm := .none },
  { cls := 8, slots := #[.int (-78)], vm := .none },
  { cls := 8, slots := #[.int (-77)], vm := .none },
  { cls := 8, slots := #[.int (-76)], vm := .none },
  { cls := 8, slots := #[.int (-75)], vm := .none },
  { cls := 8, slots := #[.int (-74)], vm := .none },
  { cls := 8, slots := #[.int (-73)], vm := .none },
  { cls := 8, slots := #[.int (-72)], vm := .none },
  { cls := 8, slots := #[.int (-71)], vm := .none },
  { cls := 8, slots := #[.int (-70)], vm := .none },
  { cls := 8, slots := #[.int (-69)], vm := .none },
  { cls := 8, slots := #[.int (-68)], vm := .none },
  { cls := 8, slots := #[.int (-67)], vm := .none },
  { cls := 8, slots := #[.int (-66)], vm := .none },
  { cls := 8, slots := #[.int (-65)], vm := .none },
  { cls := 8, slots := #[.int (-64)], vm := .none },
  { cls := 8, slots := #[.int (-63)], vm := .none },
  { cls := 8, slots := #[.int (-62)], vm := .none },
  { cls := 8, slots := #[.int (-61)], vm := .none },
  { cls := 8, slots := #[.int (-60)], vm := .none },
  { cls := 8, slots := #[.int (-59)], vm := .none },
  { cls := 8, slots := #[.int (-58)], vm := .none },
  { cls := 8, slots := #[.int (-57)], vm := .none },
  { cls := 8, slots := #[.int (-56)], vm := .none },
  { cls := 8, slots := #[.int (-55)], vm := .none },
  { cls := 8, slots := #[.int (-54)], vm := .none },
  { cls := 8, slots := #[.int (-53)], vm := .none },
  { cls := 8, slots := #[.int (-52)], vm := .none },
  { cls := 8, slots := #[.int (-51)], vm := .none },
  { cls := 8, slots := #[.int (-50)], vm := .none },
  { cls := 8, slots := #[.int (-49)], vm := .none },
  { cls := 8, slots := #[.int (-48)], vm := .none },
  { cls := 8, slots := #[.int (-47)], vm := .none },
  { cls := 8, slots := #[.int (-46)], vm := .none },
  { cls := 8, slots := #[.int (-45)], vm := .none },
  { cls := 8, slots := #[.int (-44)], vm := .none },
  { cls := 8, slots := #[.int (-43)], vm := .none },
  { cls := 8, slots := #[.int (-42)], vm := .none },
  { cls := 8, slots := #[.int (-41)], vm := .none },
  { cls := 8, slots := #[.int (-40)], vm := .none },
  { cls := 8, slots := #[.int (-39)], vm := .none },
  { cls := 8, slots := #[.int (-38)], vm := .none },
  { cls := 8, slots := #[.int (-37)], vm := .none },
  { cls := 8, slots := #[.int (-36)], vm := .none },
  { cls := 8, slots := #[.int (-35)], vm := .none },
  { cls := 8, slots := #[.int (-34)], vm := .none },
  { cls := 8, slots := #[.int (-33)], vm := .none },
  { cls := 8, slots := #[.int (-32)], vm := .none },
  { cls := 8, slots := #[.int (-31)], vm := .none },
  { cls := 8, slots := #[.int (-30)], vm := .none },
  { cls := 8, slots := #[.int (-29)], vm := .none },
  { cls := 8, slots := #[.int (-28)], vm := .none },
  { cls := 8, slots := #[.int (-27)], vm := .none },
  { cls := 8, slots := #[.int (-26)], vm := .none },
  { cls := 8, slots := #[.int (-25)], vm := .none },
  { cls := 8, slots := #[.int (-24)], vm := .none },
  { cls := 8, slots := #[.int (-23)], vm := .none },
  { cls := 8, slots := #[.int (-22)], vm := .none },
  { cls := 8, slots := #[.int (-21)], vm := .none },
  { cls := 8, slots := #[.int (-20)], vm := .none },
  { cls := 8, slots := #[.int (-19)], vm := .none },
  { cls := 8, slots := #[.int (-18)], vm := .none },
  { cls := 8, slots := #[.int (-17)], vm := .none },
  { cls := 8, slots := #[.int (-16)], vm := .none },
  { cls := 8, slots := #[.int (-15)], vm := .none },
  { cls := 8, slots := #[.int (-14)], vm := .none },
  { cls := 8, slots := #[.int (-13)], vm := .none },
  { cls := 8, slots := #[.int (-12)], vm := .none },
  { cls := 8, slots := #[.int (-11)], vm := .none },
  { cls := 8, slots := #[.int (-10)], vm := .none },
  { cls := 8, slots := #[.int (-9)], vm := .none },
  { cls := 8, slots := #[.int (-8)], vm := .none },
  { cls := 8, slots := #[.int (-7)], vm := .none },
  { cls := 8, slots := #[.int (-6)], vm := .none },
  { cls := 8, slots := #[.int (-5)], vm := .none },
  { cls := 8, slots := #[.int (-4)], vm := .none },
  { cls := 8, slots := #[.int (-3)], vm := .none },
  { cls := 8, slots := #[.int (-2)], vm := .none },
  { cls := 8, slots := #[.int (-1)], vm := .none },
  { cls := 8, slots := #[.int (0)], vm := .none },
  { cls := 8, slots := #[.int (1)], vm := .none },
  { cls := 8, slots := #[.int (2)], vm := .none },
  { cls := 8, slots := #[.int (3)], vm := .none },
  { cls := 8, slots := #[.int (4)], vm := .none },
  { cls := 8, slots := #[.int (5)], vm := .none },
  { cls := 8, slots := #[.int (6)], vm := .none },
  { cls := 8, slots := #[.int (7)], vm := .none },
  { cls := 8, slots := #[.int (8)], vm := .none },
  { cls := 8, slots := #[.int (9)], vm := .none },
  { cls := 8, slots := #[.int (10)], vm := .none },
  { cls := 8, slots := #[.int (11)], vm := .none },
  { cls := 8, slots := #[.int (12)], vm := .none },
  { cls := 8, slots := #[.int (13)], vm := .none },
  { cls := 8, slots := #[.int (14)], vm := .none },
  { cls := 8, slots := #[.int (15)], vm := .none },
  { cls := 8, slots := #[.int (16)], vm := .none },
  { cls := 8, slots := #[.int (17)], vm := .none },
  { cls := 8, slots := #[.int (18)], vm := .none },
  { cls := 8, slots := #[.int (19)], vm := .none },
  { cls := 8, slots := #[.int (20)], vm := .none },
  { cls := 8, slots := #[.int (21)], vm := .none },
  { cls := 8, slots := #[.int (22)], vm := .none },
  { cls := 8, slots := #[.int (23)], vm := .none },
  { cls := 8, slots := #[.int (24)], vm := .none },
  { cls := 8, slots := #[.int (25)], vm := .none },
  { cls := 8, slots := #[.int (26)], vm := .none },
  { cls := 8, slots := #[.int (27)], vm := .none },
  { cls := 8, slots := #[.int (28)], vm := .none },
  { cls := 8, slots := #[.int (29)], vm := .none },
  { cls := 8, slots := #[.int (30)], vm := .none },
  { cls := 8, slots := #[.int (31)], vm := .none },
  { cls := 8, slots := #[.int (32)], vm := .none },
  { cls := 8, slots := #[.int (33)], vm := .none },
  { cls := 8, slots := #[.int (34)], vm := .none },
  { cls := 8, slots := #[.int (35)], vm := .none },
  { cls := 8, slots := #[.int (36)], vm := .none },
  { cls := 8, slots := #[.int (37)], vm := .none },
  { cls := 8, slots := #[.int (38)], vm := .none },
  { cls := 8, slots := #[.int (39)], vm := .none },
  { cls := 8, slots := #[.int (40)], vm := .none },
  { cls := 8, slots := #[.int (41)], vm := .none },
  { cls := 8, slots := #[.int (42)], vm := .none },
  { cls := 8, slots := #[.int (43)], vm := .none },
  { cls := 8, slots := #[.int (44)], vm := .none },
  { cls := 8, slots := #[.int (45)], vm := .none },
  { cls := 8, slots := #[.int (46)], vm := .none },
  { cls := 8, slots := #[.int (47)], vm := .none },
  { cls := 8, slots := #[.int (48)], vm := .none },
  { cls := 8, slots := #[.int (49)], vm := .none },
  { cls := 8, slots := #[.int (50)], vm := .none },
  { cls := 8, slots := #[.int (51)], vm := .none },
  { cls := 8, slots := #[.int (52)], vm := .none },
  { cls := 8, slots := #[.int (53)], vm := .none },
  { cls := 8, slots := #[.int (54)], vm := .none },
  { cls := 8, slots := #[.int (55)], vm := .none },
  { cls := 8, slots := #[.int (56)], vm := .none },
  { cls := 8, slots := #[.int (57)], vm := .none },
  { cls := 8, slots := #[.int (58)], vm := .none },
  { cls := 8, slots := #[.int (59)], vm := .none },
  { cls := 8, slots := #[.int (60)], vm := .none },
  { cls := 8, slots := #[.int (61)], vm := .none },
  { cls := 8, slots := #[.int (62)], vm := .none },
  { cls := 8, slots := #[.int (63)], vm := .none },
  { cls := 8, slots := #[.int (64)], vm := .none },
  { cls := 8, slots := #[.int (65)], vm := .none },
  { cls := 8, slots := #[.int (66)], vm := .none },
  { cls := 8, slots := #[.int (67)], vm := .none },
  { cls := 8, slots := #[.int (68)], vm := .none },
  { cls := 8, slots := #[.int (69)], vm := .none },
  { cls := 8, slots := #[.int (70)], vm := .none },
  { cls := 8, slots := #[.int (71)], vm := .none },
  { cls := 8, slots := #[.int (72)], vm := .none },
  { cls := 8, slots := #[.int (73)], vm := .none },
  { cls := 8, slots := #[.int (74)], vm := .none },
  { cls := 8, slots := #[.int (75)], vm := .none },
  { cls := 8, slots := #[.int (76)], vm := .none },
  { cls := 8, slots := #[.int (77)], vm := .none },
  { cls := 8, slots := #[.int (78)], vm := .none },
  { cls := 8, slots := #[.int (79)], vm := .none },
  { cls := 8, slots := #[.int (80)], vm := .none },
  { cls := 8, slots := #[.int (81)], vm := .none },
  { cls := 8, slots := #[.int (82)], vm := .none },
  { cls := 8, slots := #[.int (83)], vm := .none },
  { cls := 8, slots := #[.int (84)], vm := .none },
  { cls := 8, slots := #[.int (85)], vm := .none },
  { cls := 8, slots := #[.int (86)], vm := .none },
  { cls := 8, slots := #[.int (87)], vm := .none },
  { cls := 8, slots := #[.int (88)], vm := .none },
  { cls := 8, slots := #[.int (89)], vm := .none },
  { cls := 8, slots := #[.int (90)], vm := .none },
  { cls := 8, slots := #[.int (91)], vm := .none },
  { cls := 8, slots := #[.int (92)], vm := .none },
  { cls := 8, slots := #[.int (93)], vm := .none },
  { cls := 8, slots := #[.int (94)], vm := .none },
  { cls := 8, slots := #[.int (95)], vm := .none },
  { cls := 8, slots := #[.int (96)], vm := .none },
  { cls := 8, slots := #[.int (97)], vm := .none },
  { cls := 8, slots := #[.int (98)], vm := .none },
  { cls := 8, slots := #[.int (99)], vm := .none },
  { cls := 8, slots := #[.int (100)], vm := .none },
  { cls := 8, slots := #[.int (101)], vm := .none },
  { cls := 8, slots := #[.int (102)], vm := .none },
  { cls := 8, slots := #[.int (103)], vm := .none },
  { cls := 8, slots := #[.int (104)], vm := .none },
  { cls := 8, slots := #[.int (105)], vm := .none },
  { cls := 8, slots := #[.int (106)], vm := .none },
  { cls := 8, slots := #[.int (107)], vm := .none },
  { cls := 8, slots := #[.int (108)], vm := .none },
  { cls := 8, slots := #[.int (109)], vm := .none },
  { cls := 8, slots := #[.int (110)], vm := .none },
  { cls := 8, slots := #[.int (111)], vm := .none },
  { cls := 8, slots := #[.int (112)], vm := .none },
  { cls := 8, slots := #[.int (113)], vm := .none },
  { cls := 8, slots := #[.int (114)], vm := .none },
  { cls := 8, slots := #[.int (115)], vm := .none },
  { cls := 8, slots := #[.int (116)], vm := .none },
  { cls := 8, slots := #[.int (117)], vm := .none },
  { cls := 8, slots := #[.int (118)], vm := .none },
  { cls := 8, slots := #[.int (119)], vm := .none },
  { cls := 8, slots := #[.int (120)], vm := .none },
  { cls := 8, slots := #[.int (121)], vm := .none },
  { cls := 8, slots := #[.int (122)], vm := .none },
  { cls := 8, slots := #[.int (123)], vm := .none },
  { cls := 8, slots := #[.int (124)], vm := .none },
  { cls := 8, slots := #[.int (125)], vm := .none },
  { cls := 8, slots := #[.int (126)], vm := .none },
  { cls := 8, slots := #[.int (127)], vm := .none }]
def classes : Array Class := #[k0, k1, k2, k3, k4, k5, k6, k7, k8, k9, k10, k11, k12, k13, k14, k15, k16, k17]
def interned : List (Array UInt16 × Addr) := []
def slotsUsed : Nat := 517
def theMethod : MethodId := ⟨1, 3⟩
def args0 : Array Value := #[.int 262145, .int 5, .int 9, .int 7]
def aboutOver (below : List Frame) : State where
  vm := { classes := classes, interned := interned.toArray }
  heap := heap
  slotsUsed := slotsUsed
  threads := #[{ frames := .invoking theMethod args0 :: below }]
def below0 : List Frame := [.native { method := ⟨0, 0⟩, args := #[] }]
def about1 : State := aboutOver below0
def p0 : Program := .bare "" "" ""
def e0 : Env := launch0.env 0 0 0
theorem w_frames : about1.frames = Frame.invoking theMethod args0 :: below0 := rfl
set_option maxRecDepth 65536 in
theorem w_args : argsFit about1.vm theMethod args0 = true := by decide +kernel
set_option maxRecDepth 65536 in
theorem w_heap : heapFits about1 = true := by decide +kernel
set_option maxRecDepth 65536 in
theorem w_runnable : about1.curStatus? = some .runnable := by decide +kernel
set_option maxRecDepth 65536 in
theorem w_alone : about1.alone = true := by decide +kernel
set_option maxRecDepth 65536 in
theorem w_named : about1.methodNamed? x = some theMethod := by decide +kernel
set_option maxRecDepth 65536 in
theorem w_hears : about1.hears theMethod below0 = true := by decide +kernel
set_option maxRecDepth 65536 in
theorem w_ripe : about1.ripe theMethod args0 below0 = true := by decide +kernel
theorem w_running : about1.status = .running := rfl
set_option maxRecDepth 65536 in
theorem w_room : about1.hasRoom e0.platform room_1 = true :=
  launch0.hasRoom_least _ room_1 (by decide +kernel) (by decide +kernel) (by decide +kernel) (by decide +kernel) (by decide +kernel) (by decide +kernel)
theorem allAtoms_all (ts : List Jvm.Cond) (a : Array Jvm.Value) (st : Jvm.State) : (allAtoms ts).before a st = ts.all (fun c => c.before a st) := by
  induction ts with
  | nil => rfl
  | cons c t ih =>
    show (Jvm.Cond.and c (allAtoms t)).before a st = _
    rw [Jvm.Cond.before_and, ih, List.all_cons]
def words1 : List Jvm.Cond := Jvm.Cond.code x code maxLocals ret :: tables_1
/-- a 'code' word, met by the world's own term for the bytes: nothing is compared byte by byte -/
theorem code_word {y : MethodName} {bytes : ByteArray} {mx : Nat} {rt : Option FieldType} {a : Array Value} {s : State} {m : MethodId} {meth : Method} {c : Code} (h1 : s.methodNamed? y = some m) (h2 : s.vm.method? m = some meth) (h3 : meth.code = some c) (h4 : c.code = bytes)
    (h5 : (c.maxLocals == mx && c.exceptionTable.isEmpty && decide (c.maxStack ≤ mostOperands) && decide (meth.sig.returnType = rt) && !meth.locks && decide (parseMethodDescriptor y.desc = some meth.sig)) = true) : (Jvm.Cond.code y bytes mx rt).before a s = true := by
  simp only [Bool.and_eq_true, beq_iff_eq, Bool.not_eq_true', decide_eq_true_eq] at h5
  obtain ⟨⟨⟨⟨⟨g1, g2⟩, g3⟩, g4⟩, g5⟩, g6⟩ := h5
  simp [Cond.before, Cond.holds, Cond.value, h1, h2, h3, h4, g1, g2, g3, g4, g5, g6]
def isCode : Jvm.Cond → Bool
  | .code _ _ _ _ => true
  | _ => false
theorem all_split {L : List Jvm.Cond} {P : Jvm.Cond → Bool} (h1 : L.all (fun c => isCode c || P c) = true) (h2 : ∀ c ∈ L.filter isCode, P c = true) : L.all P = true := by
  refine List.all_eq_true.mpr fun c hc => ?_
  have h := List.all_eq_true.mp h1 c hc
  rcases Bool.eq_false_or_eq_true (isCode c) with hi | hi
  · exact h2 c (List.mem_filter.mpr ⟨hc, hi⟩)
  · simpa [hi] using h
set_option maxRecDepth 65536 in
theorem w_c0 : (Jvm.Cond.code x code maxLocals ret).before args0 about1 = true := code_word (m := ⟨1, 3⟩) (meth := k1m3) (c := k1c3) (by decide +kernel) rfl rfl rfl (by decide +kernel)
set_option maxRecDepth 65536 in
theorem w_c1 : (Jvm.Cond.code ({ cls := "com/example/mullion/mullion/service/DyadicTrie", name := "<init>", desc := "()V" } : Jvm.MethodName) prog_41_method_1_code (1 : Nat) (Option.none : Option Jvm.ClassFile.FieldType)).before args0 about1 = true := code_word (m := ⟨2, 0⟩) (meth := k2m0) (c := k2c0) (by decide +kernel) rfl rfl rfl (by decide +kernel)
set_option maxRecDepth 65536 in
theorem w_c2 : (Jvm.Cond.code ({ cls := "java/lang/Object", name := "<init>", desc := "()V" } : Jvm.MethodName) object_method_1_code (1 : Nat) (Option.none : Option Jvm.ClassFile.FieldType)).before args0 about1 = true := code_word (m := ⟨0, 0⟩) (meth := k0m0) (c := k0c0) (by decide +kernel) rfl rfl rfl (by decide +kernel)
set_option maxRecDepth 65536 in
theorem w_c3 : (Jvm.Cond.code ({ cls := "com/example/mullion/mullion/service/DyadicTrie", name := "isEmpty", desc := "()Z" } : Jvm.MethodName) prog_41_method_3_code (1 : Nat) (Option.some Jvm.ClassFile.FieldType.boolean)).before args0 about1 = true := code_word (m := ⟨2, 1⟩) (meth := k2m1) (c := k2c1) (by decide +kernel) rfl rfl rfl (by decide +kernel)
set_option maxRecDepth 65536 in
theorem w_c4 : (Jvm.Cond.code ({ cls := "java/lang/Integer", name := "valueOf", desc := "(I)Ljava/lang/Integer;" } : Jvm.MethodName) jdk_33_method_22_code (1 : Nat) (Option.some (Jvm.ClassFile.FieldType.object "java/lang/Integer"))).before args0 about1 = true := code_word (m := ⟨8, 0⟩) (meth := k8m0) (c := k8c0) (by decide +kernel) rfl rfl rfl (by decide +kernel)
set_option maxRecDepth 65536 in
theorem w_c5 : (Jvm.Cond.code ({ cls := "com/example/mullion/mullion/service/DyadicTrie", name := "put", desc := "(IILjava/lang/Object;)V" } : Jvm.MethodName) prog_41_method_6_code (11 : Nat) (Option.none : Option Jvm.ClassFile.FieldType)).before args0 about1 = true := code_word (m := ⟨2, 2⟩) (meth := k2m2) (c := k2c2) (by decide +kernel) rfl rfl rfl (by decide +kernel)
set_option maxRecDepth 65536 in
theorem w_c6 : (Jvm.Cond.code ({ cls := "com/example/mullion/mullion/service/DyadicTrie", name := "startOf", desc := "(II)J" } : Jvm.MethodName) prog_41_method_10_code (2 : Nat) (Option.some Jvm.ClassFile.FieldType.long)).before args0 about1 = true := code_word (m := ⟨2, 6⟩) (meth := k2m6) (c := k2c6) (by decide +kernel) rfl rfl rfl (by decide +kernel)
set_option maxRecDepth 65536 in
theorem w_c7 : (Jvm.Cond.code ({ cls := "com/example/mullion/mullion/service/DyadicTrie", name := "counted", desc := "(I)J" } : Jvm.MethodName) prog_41_method_11_code (1 : Nat) (Option.some Jvm.ClassFile.FieldType.long)).before args0 about1 = true := code_word (m := ⟨2, 7⟩) (meth := k2m7) (c := k2c7) (by decide +kernel) rfl rfl rfl (by decide +kernel)
set_option maxRecDepth 65536 in
theorem w_c8 : (Jvm.Cond.code ({ cls := "java/lang/Integer", name := "toUnsignedLong", desc := "(I)J" } : Jvm.MethodName) jdk_33_method_42_code (1 : Nat) (Option.some Jvm.ClassFile.FieldType.long)).before args0 about1 = true := code_word (m := ⟨8, 1⟩) (meth := k8m1) (c := k8c1) (by decide +kernel) rfl rfl rfl (by decide +kernel)
set_option maxRecDepth 65536 in
theorem w_c9 : (Jvm.Cond.code ({ cls := "com/example/mullion/mullion/service/DyadicTrie$Node", name := "<init>", desc := "(IJLjava/lang/Object;)V" } : Jvm.MethodName) prog_42_method_1_code (5 : Nat) (Option.none : Option Jvm.ClassFile.FieldType)).before args0 about1 = true := code_word (m := ⟨10, 0⟩) (meth := k10m0) (c := k10c0) (by decide +kernel) rfl rfl rfl (by decide +kernel)
set_option maxRecDepth 65536 in
theorem w_c10 : (Jvm.Cond.code ({ cls := "com/example/mullion/mullion/service/DyadicTrie", name := "link", desc := "(Lcom/example/mullion/mullion/service/DyadicTrie$Node;JLcom/example/mullion/mullion/service/DyadicTrie$Node;)V" } : Jvm.MethodName) prog_41_method_8_code (5 : Nat) (Option.none : Option Jvm.ClassFile.FieldType)).before args0 about1 = true := code_word (m := ⟨2, 4⟩) (meth := k2m4) (c := k2c4) (by decide +kernel) rfl rfl rfl (by decide +kernel)
set_option maxRecDepth 65536 in
theorem w_c11 : (Jvm.Cond.code ({ cls := "com/example/mullion/mullion/service/DyadicTrieIsEmptyPinLaw", name := "same", desc := "(IIII)Z" } : Jvm.MethodName) method_3_code (4 : Nat) (Option.some Jvm.ClassFile.FieldType.boolean)).before args0 about1 = true := code_word (m := ⟨1, 2⟩) (meth := k1m2) (c := k1c2) (by decide +kernel) rfl rfl rfl (by decide +kernel)
set_option maxRecDepth 65536 in
theorem w_c12 : (Jvm.Cond.code ({ cls := "com/example/mullion/mullion/service/DyadicTrie$Node", name := "isWiderThan", desc := "(IJ)Z" } : Jvm.MethodName) prog_42_method_6_code (4 : Nat) (Option.some Jvm.ClassFile.FieldType.boolean)).before args0 about1 = true := code_word (m := ⟨10, 2⟩) (meth := k10m2) (c := k10c2) (by decide +kernel) rfl rfl rfl (by decide +kernel)
set_option maxRecDepth 65536 in
theorem w_c13 : (Jvm.Cond.code ({ cls := "com/example/mullion/mullion/service/DyadicTrie$Node", name := "holds", desc := "(J)Z" } : Jvm.MethodName) prog_42_method_5_code (3 : Nat) (Option.some Jvm.ClassFile.FieldType.boolean)).before args0 about1 = true := code_word (m := ⟨10, 1⟩) (meth := k10m1) (c := k10c1) (by decide +kernel) rfl rfl rfl (by decide +kernel)
set_option maxRecDepth 65536 in
theorem w_c14 : (Jvm.Cond.code ({ cls := "com/example/mullion/mullion/service/DyadicTrie$Node", name := "isAt", desc := "(IJ)Z" } : Jvm.MethodName) prog_42_method_7_code (4 : Nat) (Option.some Jvm.ClassFile.FieldType.boolean)).before args0 about1 = true := code_word (m := ⟨10, 3⟩) (meth := k10m3) (c := k10c3) (by decide +kernel) rfl rfl rfl (by decide +kernel)
set_option maxRecDepth 65536 in
theorem w_c15 : (Jvm.Cond.code ({ cls := "com/example/mullion/mullion/service/DyadicTrie", name := "levelHolding", desc := "(JJ)I" } : Jvm.MethodName) prog_41_method_9_code (4 : Nat) (Option.some Jvm.ClassFile.FieldType.int)).before args0 about1 = true := code_word (m := ⟨2, 5⟩) (meth := k2m5) (c := k2c5) (by decide +kernel) rfl rfl rfl (by decide +kernel)
set_option maxRecDepth 65536 in
theorem w_c16 : (Jvm.Cond.code ({ cls := "java/lang/Long", name := "numberOfLeadingZeros", desc := "(J)I" } : Jvm.MethodName) jdk_35_method_48_code (3 : Nat) (Option.some Jvm.ClassFile.FieldType.int)).before args0 about1 = true := code_word (m := ⟨11, 0⟩) (meth := k11m0) (c := k11c0) (by decide +kernel) rfl rfl rfl (by decide +kernel)
set_option maxRecDepth 65536 in
theorem w_c17 : (Jvm.Cond.code ({ cls := "java/lang/Integer", name := "numberOfLeadingZeros", desc := "(I)I" } : Jvm.MethodName) jdk_33_method_47_code (2 : Nat) (Option.some Jvm.ClassFile.FieldType.int)).before args0 about1 = true := code_word (m := ⟨8, 2⟩) (meth := k8m2) (c := k8c2) (by decide +kernel) rfl rfl rfl (by decide +kernel)
set_option maxRecDepth 65536 in
theorem w_c18 : (Jvm.Cond.code ({ cls := "com/example/mullion/mullion/service/DyadicTrie$Node", name := "attach", desc := "(Lcom/example/mullion/mullion/service/DyadicTrie$Node;)V" } : Jvm.MethodName) prog_42_method_10_code (2 : Nat) (Option.none : Option Jvm.ClassFile.FieldType)).before args0 about1 = true := code_word (m := ⟨10, 6⟩) (meth := k10m6) (c := k10c6) (by decide +kernel) rfl rfl rfl (by decide +kernel)
set_option maxRecDepth 65536 in
theorem w_c19 : (Jvm.Cond.code ({ cls := "com/example/mullion/mullion/service/DyadicTrie$Node", name := "isLowerHalf", desc := "(J)Z" } : Jvm.MethodName) prog_42_method_9_code (3 : Nat) (Option.some Jvm.ClassFile.FieldType.boolean)).before args0 about1 = true := code_word (m := ⟨10, 5⟩) (meth := k10m5) (c := k10c5) (by decide +kernel) rfl rfl rfl (by decide +kernel)
set_option maxRecDepth 65536 in
theorem w_c20 : (Jvm.Cond.code ({ cls := "com/example/mullion/mullion/service/DyadicTrie", name := "remove", desc := "(II)V" } : Jvm.MethodName) prog_41_method_7_code (9 : Nat) (Option.none : Option Jvm.ClassFile.FieldType)).before args0 about1 = true := code_word (m := ⟨2, 3⟩) (meth := k2m3) (c := k2c3) (by decide +kernel) rfl rfl rfl (by decide +kernel)
set_option maxRecDepth 65536 in
theorem w_c21 : (Jvm.Cond.code ({ cls := "com/example/mullion/mullion/service/DyadicTrie$Node", name := "toward", desc := "(J)Lcom/example/mullion/mullion/service/DyadicTrie$Node;" } : Jvm.MethodName) prog_42_method_8_code (3 : Nat) (Option.some (Jvm.ClassFile.FieldType.object "com/example/mullion/mullion/service/DyadicTrie$Node"))).before args0 about1 = true := code_word (m := ⟨10, 4⟩) (meth := k10m4) (c := k10c4) (by decide +kernel) rfl rfl rfl (by decide +kernel)
set_option maxRecDepth 65536 in
theorem w_c22 : (Jvm.Cond.code ({ cls := "com/example/mullion/mullion/service/DyadicTrie$Node", name := "onlyChild", desc := "()Lcom/example/mullion/mullion/service/DyadicTrie$Node;" } : Jvm.MethodName) prog_42_method_11_code (1 : Nat) (Option.some (Jvm.ClassFile.FieldType.object "com/example/mullion/mullion/service/DyadicTrie$Node"))).before args0 about1 = true := code_word (m := ⟨10, 7⟩) (meth := k10m7) (c := k10c7) (by decide +kernel) rfl rfl rfl (by decide +kernel)
set_option maxRecDepth 65536 in
theorem w_c23 : (Jvm.Cond.code ({ cls := "com/example/mullion/mullion/service/DyadicTrieIsEmptyPinLaw", name := "start", desc := "(II)J" } : Jvm.MethodName) method_2_code (4 : Nat) (Option.some Jvm.ClassFile.FieldType.long)).before args0 about1 = true := code_word (m := ⟨1, 1⟩) (meth := k1m1) (c := k1c1) (by decide +kernel) rfl rfl rfl (by decide +kernel)
def codes1 : List Jvm.Cond := [Jvm.Cond.code x code maxLocals ret, Jvm.Cond.code ({ cls := "com/example/mullion/mullion/service/DyadicTrie", name := "<init>", desc := "()V" } : Jvm.MethodName) prog_41_method_1_code (1 : Nat) (Option.none : Option Jvm.ClassFile.FieldType), Jvm.Cond.code ({ cls := "java/lang/Object", name := "<init>", desc := "()V" } : Jvm.MethodName) object_method_1_code (1 : Nat) (Option.none : Option Jvm.ClassFile.FieldType), Jvm.Cond.code ({ cls := "com/example/mullion/mullion/service/DyadicTrie", name := "isEmpty", desc := "()Z" } : Jvm.MethodName) prog_41_method_3_code (1 : Nat) (Option.some Jvm.ClassFile.FieldType.boolean), Jvm.Cond.code ({ cls := "java/lang/Integer", name := "valueOf", desc := "(I)Ljava/lang/Integer;" } : Jvm.MethodName) jdk_33_method_22_code (1 : Nat) (Option.some (Jvm.ClassFile.FieldType.object "java/lang/Integer")), Jvm.Cond.code ({ cls := "com/example/mullion/mullion/service/DyadicTrie", name := "put", desc := "(IILjava/lang/Object;)V" } : Jvm.MethodName) prog_41_method_6_code (11 : Nat) (Option.none : Option Jvm.ClassFile.FieldType), Jvm.Cond.code ({ cls := "com/example/mullion/mullion/service/DyadicTrie", name := "startOf", desc := "(II)J" } : Jvm.MethodName) prog_41_method_10_code (2 : Nat) (Option.some Jvm.ClassFile.FieldType.long), Jvm.Cond.code ({ cls := "com/example/mullion/mullion/service/DyadicTrie", name := "counted", desc := "(I)J" } : Jvm.MethodName) prog_41_method_11_code (1 : Nat) (Option.some Jvm.ClassFile.FieldType.long), Jvm.Cond.code ({ cls := "java/lang/Integer", name := "toUnsignedLong", desc := "(I)J" } : Jvm.MethodName) jdk_33_method_42_code (1 : Nat) (Option.some Jvm.ClassFile.FieldType.long), Jvm.Cond.code ({ cls := "com/example/mullion/mullion/service/DyadicTrie$Node", name := "<init>", desc := "(IJLjava/lang/Object;)V" } : Jvm.MethodName) prog_42_method_1_code (5 : Nat) (Option.none : Option Jvm.ClassFile.FieldType), Jvm.Cond.code ({ cls := "com/example/mullion/mullion/service/DyadicTrie", name := "link", desc := "(Lcom/example/mullion/mullion/service/DyadicTrie$Node;JLcom/example/mullion/mullion/service/DyadicTrie$Node;)V" } : Jvm.MethodName) prog_41_method_8_code (5 : Nat) (Option.none : Option Jvm.ClassFile.FieldType), Jvm.Cond.code ({ cls := "com/example/mullion/mullion/service/DyadicTrieIsEmptyPinLaw", name := "same", desc := "(IIII)Z" } : Jvm.MethodName) method_3_code (4 : Nat) (Option.some Jvm.ClassFile.FieldType.boolean), Jvm.Cond.code ({ cls := "com/example/mullion/mullion/service/DyadicTrie$Node", name := "isWiderThan", desc := "(IJ)Z" } : Jvm.MethodName) prog_42_method_6_code (4 : Nat) (Option.some Jvm.ClassFile.FieldType.boolean), Jvm.Cond.code ({ cls := "com/example/mullion/mullion/service/DyadicTrie$Node", name := "holds", desc := "(J)Z" } : Jvm.MethodName) prog_42_method_5_code (3 : Nat) (Option.some Jvm.ClassFile.FieldType.boolean), Jvm.Cond.code ({ cls := "com/example/mullion/mullion/service/DyadicTrie$Node", name := "isAt", desc := "(IJ)Z" } : Jvm.MethodName) prog_42_method_7_code (4 : Nat) (Option.some Jvm.ClassFile.FieldType.boolean), Jvm.Cond.code ({ cls := "com/example/mullion/mullion/service/DyadicTrie", name := "levelHolding", desc := "(JJ)I" } : Jvm.MethodName) prog_41_method_9_code (4 : Nat) (Option.some Jvm.ClassFile.FieldType.int), Jvm.Cond.code ({ cls := "java/lang/Long", name := "numberOfLeadingZeros", desc := "(J)I" } : Jvm.MethodName) jdk_35_method_48_code (3 : Nat) (Option.some Jvm.ClassFile.FieldType.int), Jvm.Cond.code ({ cls := "java/lang/Integer", name := "numberOfLeadingZeros", desc := "(I)I" } : Jvm.MethodName) jdk_33_method_47_code (2 : Nat) (Option.some Jvm.ClassFile.FieldType.int), Jvm.Cond.code ({ cls := "com/example/mullion/mullion/service/DyadicTrie$Node", name := "attach", desc := "(Lcom/example/mullion/mullion/service/DyadicTrie$Node;)V" } : Jvm.MethodName) prog_42_method_10_code (2 : Nat) (Option.none : Option Jvm.ClassFile.FieldType), Jvm.Cond.code ({ cls := "com/example/mullion/mullion/service/DyadicTrie$Node", name := "isLowerHalf", desc := "(J)Z" } : Jvm.MethodName) prog_42_method_9_code (3 : Nat) (Option.some Jvm.ClassFile.FieldType.boolean), Jvm.Cond.code ({ cls := "com/example/mullion/mullion/service/DyadicTrie", name := "remove", desc := "(II)V" } : Jvm.MethodName) prog_41_method_7_code (9 : Nat) (Option.none : Option Jvm.ClassFile.FieldType), Jvm.Cond.code ({ cls := "com/example/mullion/mullion/service/DyadicTrie$Node", name := "toward", desc := "(J)Lcom/example/mullion/mullion/service/DyadicTrie$Node;" } : Jvm.MethodName) prog_42_method_8_code (3 : Nat) (Option.some (Jvm.ClassFile.FieldType.object "com/example/mullion/mullion/service/DyadicTrie$Node")), Jvm.Cond.code ({ cls := "com/example/mullion/mullion/service/DyadicTrie$Node", name := "onlyChild", desc := "()Lcom/example/mullion/mullion/service/DyadicTrie$Node;" } : Jvm.MethodName) prog_42_method_11_code (1 : Nat) (Option.some (Jvm.ClassFile.FieldType.object "com/example/mullion/mullion/service/DyadicTrie$Node")), Jvm.Cond.code ({ cls := "com/example/mullion/mullion/service/DyadicTrieIsEmptyPinLaw", name := "start", desc := "(II)J" } : Jvm.MethodName) method_2_code (4 : Nat) (Option.some Jvm.ClassFile.FieldType.long)]
set_option maxRecDepth 65536 in
theorem codes_eq : words1.filter isCode = codes1 := rfl
theorem w_codes : ∀ c ∈ words1.filter isCode, c.before args0 about1 = true := by
  rw [codes_eq]
  intro c hc
  simp only [codes1, List.mem_cons, List.not_mem_nil, or_false] at hc
  rcases hc with rfl | rfl | rfl | rfl | rfl | rfl | rfl | rfl | rfl | rfl | rfl | rfl | rfl | rfl | rfl | rfl | rfl | rfl | rfl | rfl | rfl | rfl | rfl | rfl
  · exact w_c0
  · exact w_c1
  · exact w_c2
  · exact w_c3
  · exact w_c4
  · exact w_c5
  · exact w_c6
  · exact w_c7
  · exact w_c8
  · exact w_c9
  · exact w_c10
  · exact w_c11
  · exact w_c12
  · exact w_c13
  · exact w_c14
  · exact w_c15
  · exact w_c16
  · exact w_c17
  · exact w_c18
  · exact w_c19
  · exact w_c20
  · exact w_c21
  · exact w_c22
  · exact w_c23
set_option maxRecDepth 65536 in
theorem w_t1 : (words1.take 24).all (fun c => isCode c || c.before args0 about1) = true := by decide +kernel
set_option maxRecDepth 65536 in
theorem w_t2 : ((words1.drop 24).take 24).all (fun c => isCode c || c.before args0 about1) = true := by decide +kernel
set_option maxRecDepth 65536 in
theorem w_t3 : (((words1.drop 24).drop 24).take 24).all (fun c => isCode c || c.before args0 about1) = true := by decide +kernel
set_option maxRecDepth 65536 in
theorem w_t4 : ((((words1.drop 24).drop 24).drop 24).take 24).all (fun c => isCode c || c.before args0 about1) = true := by decide +kernel
set_option maxRecDepth 65536 in
theorem w_t5 : ((((words1.drop 24).drop 24).drop 24).drop 24).all (fun c => isCode c || c.before args0 about1) = true := by decide +kernel
theorem w_tables : (allAtoms (Jvm.Cond.code x code maxLocals ret :: tables_1)).before args0 about1 = true := by
  rw [allAtoms_all]
  show words1.all (fun c => c.before args0 about1) = true
  refine all_split ?_ w_codes
  rw [← List.take_append_drop 24 words1, List.all_append, w_t1, ← List.take_append_drop 24 (words1.drop 24), List.all_append, w_t2, ← List.take_append_drop 24 ((words1.drop 24).drop 24), List.all_append, w_t3, ← List.take_append_drop 24 (((words1.drop 24).drop 24).drop 24), List.all_append, w_t4, w_t5]
  rfl
set_option maxRecDepth 65536 in
theorem w_rest : rest_1_c.before args0 about1 = true := by decide +kernel
set_option maxRecDepth 65536 in
theorem w_case : (Jvm.Cond.and given_1 narrow_1).before args0 about1 = true := by decide +kernel
theorem w_applies : (headSpec (Jvm.Cond.code x code maxLocals ret :: tables_1) room_1).applies x e0.platform about1 = true :=
  (Spec.applies_iff w_frames).mpr ⟨w_running, w_runnable, w_alone, w_named, w_hears, w_ripe, w_room, w_tables⟩
theorem atStart : AtStart classFile x code maxLocals ret World_1 tables_1 room_1 Calls_1 rest_1 Pre_1 launch0 p0 e0 about1 theMethod args0 below0 :=
  ⟨lists_1, trivial, launch0.admits_env _ _ _, launch0.least_env, fairChoices_fair.cas, fairChoices_fair.clock, w_frames, w_args, w_heap, w_applies, trivial, w_rest, w_case⟩
end start1
theorem witness_1 : WitnessClaimed_1 := ⟨start1.p0, start1.e0, start1.about1, start1.theMethod, start1.args0, start1.below0, start1.atStart⟩
end Jvm.Pilot.@@N@@
