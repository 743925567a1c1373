import JvmDerived
import JvmDerived.Pilot.@@N@@Statement
import JvmDerived.Pilot.@@N@@Code
set_option linter.unusedVariables false
set_option linter.unusedSimpArgs false
namespace Jvm.RoadKit
open Sem ClassFile Op Lib Jvm.Stand Jvm.Free Jvm.LawKit
/-- the run from S comes to an end that Post allows -/
def own_Fin (tb : Tables) (e : Env) (below : List Frame) (Post : Outcome → State → Prop) (S : State) : Prop := ∃ s₂ o, Steps tb e below S s₂ ∧ s₂.status = .running ∧ Ended s₂ below o ∧ Post o s₂
def own_post (Q : Option Value → Heap → List Loc → Prop) (s : State) (k n : Nat) (o : Outcome) (U : State) : Prop := ∃ v L, o = .returned v ∧ Q v U.heap L ∧ FrameEnd s o U L k n
def own_bool (P : Prop) (v : Option Value) : Prop := (v = some (.int 1) ∧ P) ∨ (v = some (.int 0) ∧ ¬ P)
theorem own_Fin.step {tb : Tables} {e : Env} {below : List Frame} {Post : Outcome → State → Prop} {S S' : State} (h : ∀ t, Steps tb e below S' t → Steps tb e below S t) (k : own_Fin tb e below Post S') : own_Fin tb e below Post S := by
  obtain ⟨s2, o, h1, h2⟩ := k
  exact ⟨s2, o, h _ h1, h2⟩
theorem own_Fin.trans {tb : Tables} {e : Env} {below : List Frame} {Post : Outcome → State → Prop} {S S' : State} (h : Steps tb e below S S') (k : own_Fin tb e below Post S') : own_Fin tb e below Post S := by
  obtain ⟨s2, o, h1, h2⟩ := k
  exact ⟨s2, o, h.trans h1, h2⟩
section New
variable {p : Program} {l : Launch} {e : Env} {R : Room} {s : State} {m : MethodId} {args : Array Value} {below : List Frame} {meth : Method} {c : Code} {T : State} {locs : List Loc} {cells slots : Nat} {Q : Option Value → Heap → List Loc → Prop} {kc ks : Nat} {h : Heap}
theorem retI (X : Stand p l e R s m args below meth c T locs cells slots) (hx : p.tables.exec = Jvm.exec) {pc : Nat} {Ls : Array Slot} {z : Int32} {rest : List Value} (hret : meth.sig.returnType = some .int) (hd : decode c.code pc = .ok (.ireturn, 1)) {fs : List Frame}
    (hl : ∀ (f : JFrame) (acts : List Action), f.method = m → f.locked = none → f.entered = [] → (doReturn e (T.setTop f) acts (some (.int z))).1 = T.setFrames fs) : Steps p.tables e below (T.setTop (mkF m pc Ls (.int z :: rest))) (T.setFrames fs) := by
  have hm' : T.vm.method? m = some meth := X.method'
  have hn : narrow .int (.int z) = .int z := rfl
  show Steps p.tables e below (T.setTop { method := m, pc := pc, locals := Ls, stack := _ :: rest, locked := none }) _
  jvm_step X.here [X.here.top, hx, hd, hm', hret, hn]
  first | (intro acts; rw [hl _ acts rfl rfl rfl]) | rw [hl _ _ rfl rfl rfl]
  exact Steps.refl _
theorem own_retN (X : Stand p l e R s m args below meth c T locs cells slots) (hx : p.tables.exec = Jvm.exec) (hlk : meth.locks = false) {pc : Nat} {Ls : Array Slot} {z : Int32} {t : FieldType} {rest : List Value} (hret : meth.sig.returnType = some t) (ht : t = .boolean ∨ t = .byte ∨ t = .char ∨ t = .short)
    (hd : decode c.code pc = .ok (.ireturn, 1)) (eT : T.heap = h) (hq : Q (some (.int (nar t z))) h locs) (hc : cells ≤ kc) (hs : slots ≤ ks) : own_Fin p.tables e below (own_post Q s kc ks) (T.setTop (mkF m pc Ls (.int z :: rest))) := by
  obtain ⟨fs, hr, hrun, hended, hW, hsame⟩ := X.leave (v := some (.int (nar t z))) (fun h => by rw [hret] at h; cases h) hlk
  exact ⟨_, _, retN X hx hret ht hd hr, hrun, hended, _, _, rfl, (eT ▸ hq : Q (some (.int (nar t z))) T.heap locs), ⟨_, rfl⟩, hW, hsame.mono hc hs⟩
theorem own_retI (X : Stand p l e R s m args below meth c T locs cells slots) (hx : p.tables.exec = Jvm.exec) (hlk : meth.locks = false) {pc : Nat} {Ls : Array Slot} {z : Int32} {rest : List Value} (hret : meth.sig.returnType = some .int)
    (hd : decode c.code pc = .ok (.ireturn, 1)) (eT : T.heap = h) (hq : Q (some (.int z)) h locs) (hc : cells ≤ kc) (hs : slots ≤ ks) : own_Fin p.tables e below (own_post Q s kc ks) (T.setTop (mkF m pc Ls (.int z :: rest))) := by
  obtain ⟨fs, hr, hrun, hended, hW, hsame⟩ := X.leave (v := some (.int z)) (fun h => by rw [hret] at h; cases h) hlk
  exact ⟨_, _, retI X hx hret hd hr, hrun, hended, _, _, rfl, (eT ▸ hq : Q (some (.int z)) T.heap locs), ⟨_, rfl⟩, hW, hsame.mono hc hs⟩
theorem own_retJ (X : Stand p l e R s m args below meth c T locs cells slots) (hx : p.tables.exec = Jvm.exec) (hlk : meth.locks = false) {pc : Nat} {Ls : Array Slot} {z : Int64} (hret : meth.sig.returnType = some .long)
    (hd : decode c.code pc = .ok (.lreturn, 1)) (eT : T.heap = h) (hq : Q (some (.long z)) h locs) (hc : cells ≤ kc) (hs : slots ≤ ks) : own_Fin p.tables e below (own_post Q s kc ks) (T.setTop (mkF m pc Ls [.long z])) := by
  obtain ⟨fs, hr, hrun, hended, hW, hsame⟩ := X.leave (v := some (.long z)) (fun h => by rw [hret] at h; cases h) hlk
  exact ⟨_, _, X.lreturnOut hx hret hd hr, hrun, hended, _, _, rfl, (eT ▸ hq : Q (some (.long z)) T.heap locs), ⟨_, rfl⟩, hW, hsame.mono hc hs⟩
theorem own_retR (X : Stand p l e R s m args below meth c T locs cells slots) (hx : p.tables.exec = Jvm.exec) (hlk : meth.locks = false) {pc : Nat} {Ls : Array Slot} {w : Value} {t : FieldType} (hw : w.isRef = true) (hret : meth.sig.returnType = some t) (ht : t.isReference = true)
    (hd : decode c.code pc = .ok (.areturn, 1)) (eT : T.heap = h) (hq : Q (some w) h locs) (hc : cells ≤ kc) (hs : slots ≤ ks) : own_Fin p.tables e below (own_post Q s kc ks) (T.setTop (mkF m pc Ls [w])) := by
  obtain ⟨fs, hr, hrun, hended, hW, hsame⟩ := X.leave (v := some w) (fun h => by rw [hret] at h; cases h) hlk
  exact ⟨_, _, X.areturnOut hx hw hret ht hd hr, hrun, hended, _, _, rfl, (eT ▸ hq : Q (some w) T.heap locs), ⟨_, rfl⟩, hW, hsame.mono hc hs⟩
theorem own_retV (X : Stand p l e R s m args below meth c T locs cells slots) (hx : p.tables.exec = Jvm.exec) (hlk : meth.locks = false) {pc : Nat} {Ls : Array Slot} (hret : meth.sig.returnType = none)
    (hd : decode c.code pc = .ok (.return_, 1)) (eT : T.heap = h) (hq : Q none h locs) (hc : cells ≤ kc) (hs : slots ≤ ks) : own_Fin p.tables e below (own_post Q s kc ks) (T.setTop (mkF m pc Ls [])) := by
  obtain ⟨fs, hr, hrun, hended, hW, hsame⟩ := X.leave (v := none) (fun _ => rfl) hlk
  exact ⟨_, _, X.returnOut hx hret hd hr, hrun, hended, _, _, rfl, (eT ▸ hq : Q none T.heap locs), ⟨_, rfl⟩, hW, hsame.mono hc hs⟩
theorem own_cat1 {v : Value} (h : v.isRef = true) : v.category = 1 := by cases v <;> simp [Value.isRef, Value.category] at h ⊢
theorem own_catR {a : Addr} : (Value.ref a).category = 1 := rfl
theorem own_catN : Value.null.category = 1 := rfl
theorem own_catI {a : Int32} : (Value.int a).category = 1 := rfl
theorem own_catJ {a : Int64} : (Value.long a).category = 2 := rfl
theorem own_fitR {v : Value} {C : String} (h : v.isRef = true) : fits (.object C) v = true := by cases v <;> simp [Value.isRef, fits] at h ⊢
theorem own_fitA {v : Value} {ty : FieldType} (h : v.isRef = true) : fits (.array ty) v = true := by cases v <;> simp [Value.isRef, fits] at h ⊢
theorem own_selPriv {s : State} {args : Array Value} {y : MethodName} {n : Nat} (hi : (Cond.instantiable y.cls n).before args s = true) (hpriv : s.PrivateAt y) (hinst : (Cond.instanceMethod y).before args s = true) (hy : y.cls ≠ "java/lang/invoke/MethodHandle" ∧ y.cls ≠ "java/lang/invoke/VarHandle") : (Cond.selects y.cls y y).before args s = true := by
  obtain ⟨c, k, h1, h2, -, h4, -, -⟩ := Cond.instantiable_spec hi
  have h5 : k.isInterface = false := by
    cases hk : k.isInterface with
    | false => rfl
    | true => simp [hk] at h4
  exact selects_self_of_private h1 h2 h5 hpriv hinst hy
theorem own_eqI {a b : Term} {args : Array Value} {first st : State} {o : Option Outcome} {idx : List Nat} {y : Int32} (h : (Cond.eq a b).value args first o st idx = some true) (hb : b.eval args first o idx st = some (.int y)) : a.eval args first o idx st = some (.int y) := by
  cases ha : a.eval args first o idx st with
  | none => simp [Cond.value, ha] at h
  | some x => cases x <;> simp [Cond.value, ha, hb] at h ⊢ <;> exact h
theorem own_eqR {a b : Term} {args : Array Value} {first st : State} {o : Option Outcome} {idx : List Nat} {y : Addr} (h : (Cond.eq a b).value args first o st idx = some true) (hb : b.eval args first o idx st = some (.ref y)) : a.eval args first o idx st = some (.ref y) := by
  cases ha : a.eval args first o idx st with
  | none => simp [Cond.value, ha] at h
  | some x => cases x <;> simp [Cond.value, ha, hb] at h ⊢ <;> exact h
theorem own_elem {t : Term} {args : Array Value} {Z : State} {a : Addr} {cl : Cell} {ty : FieldType} {j : Int32} {v : Value} (ev : t.eval args Z none [] Z = some (.ref a)) (A : Arr Z Z.heap a cl ty) (h : (Term.elem t (.int j)).eval args Z none [] Z = some v) : cl.slots[j.toNatClampNeg]? = some v := by
  obtain ⟨a', j', cell, e1, e2, e3, -, e5⟩ := Term.elem_spec h
  cases e1.symm.trans ev
  have e6 : some (Value.int j) = some (Value.int j') := e2
  cases e6
  have := IntBox.arrayAt_of A.1 A.2.1 A.2.2
  cases e3.symm.trans this
  exact e5
theorem own_arv {t : Term} {args : Array Value} {Z : State} {a : Addr} {cl : Cell} {ty : FieldType} {z : Int32} {vs : List Value} {dv : Value} (hf : Fit Z) (ev : t.eval args Z none [] Z = some (.ref a)) (A : Arr Z Z.heap a cl ty) (hl : (Term.length t).eval args Z none [] Z = some (.int z)) (hz : ¬ z < 0) (hn : z.toNatClampNeg = vs.length) (H : HasL cl 0 vs) : Arv Z Z.heap a cl.cls ty z vs dv := by
  have hA := IntBox.arrayAt_of A.1 A.2.1 A.2.2
  have hlt : cl.slots.size < 2 ^ 31 := by
    by_cases hq : cl.slots.size < 2 ^ 31
    · exact hq
    · simp [Term.eval, ev, hA, hq] at hl
  have e := len_f (t := t) (args := args) (first := Z) (o := none) (idx := []) ev hA hlt
  have e2 : cl.slots.size.toInt32 = z := by
    have := e.symm.trans hl
    cases this; rfl
  exact Arv.start hf A hlt e2 hz hn H
end New
end Jvm.RoadKit
namespace Jvm.RoadKit
open Sem ClassFile Op Lib Jvm.Stand Jvm.Free Jvm.LawKit
section Refs
variable {p : Program} {l : Launch} {e : Env} {R : Room} {s : State} {m : MethodId} {args : Array Value} {below : List Frame} {meth : Method} {c : Code} {T : State} {locs : List Loc} {cells slots : Nat} {Z : State} {a0 : Array Value} {h : Heap}
/-- a resolved Fieldref, at the tables where the walk stands -/
theorem own_fref (X : Stand p l e R s m args below meth c T locs cells slots) (hZ : Z.Warmed39 s.vm) {own R0 n d : String} {index : Nat} (hown : s.vm.findClass own = some m.cls) (w : (Cond.fieldRef own index R0 n d).before a0 Z = true) {cf i : Nat} {k : Class} {f : Field} (hf : Z.fieldFound? R0 n d = some (cf, k, i, f)) : T.vm.fieldReady m.cls index cf f := by
  have hT : Z.Warmed39 T.vm := wtrans hZ X.warmed
  have w2 := Cond.fieldRef_warmed39 hT w
  have ho : (Z.setVm T.vm).vm.findClass own = some m.cls := by
    show T.vm.findClass own = some m.cls
    rw [X.warmed.alike.findClass]; exact hown
  obtain ⟨c', k', i', f', h1, h2⟩ := Cond.fieldRef_spec ho (show _ from w2)
  obtain ⟨k2, h3, -⟩ := State.fieldFound?_setVm (s := Z) hT.alike hf
  cases h1.symm.trans h3
  exact h2
theorem own_getFR (X : Stand p l e R s m args below meth c T locs cells slots) (hx : p.tables.exec = Jvm.exec) (hZ : Z.Warmed39 s.vm) {own R0 O n d : String} {index : Nat} (hown : s.vm.findClass own = some m.cls) (w : (Cond.fieldRef own index R0 n d).before a0 Z = true) (via : Via Z R0 O n d)
    (eT : T.heap = h) {a : Addr} {v : Value} (F : Fld Z h a O n d v) {g : JFrame} (hg : g.method = m) {rest : List Value} (hs : g.stack = .ref a :: rest) (hd : decode c.code g.pc = .ok (.getfield index, 3)) : ∃ T', Stand p l e R s m args below meth c T' locs cells slots ∧ T'.heap = h ∧ ∀ target, Steps p.tables e below (T'.setTop { g with pc := g.pc + 3, stack := v :: rest }) target → Steps p.tables e below (T.setTop g) target := by
  obtain ⟨cell, cf, k, i, f, h1, h2, h3, h4, -, -, h7⟩ := F
  have hr := own_fref X hZ hown w (via _ h2)
  refine ⟨T, X, eT, fun target hrest => ?_⟩
  subst hg
  jvm_step X.here [hx, hd, getfield.wp_ready (e := e) (s := T) (f := g) X.here.top hr h3 hs (show T.heap[a]? = some cell by rw [eT]; exact h1) h4 h7]
  exact hrest
/-- a resolved Methodref, at the tables where the walk stands -/
theorem own_mref (X : Stand p l e R s m args below meth c T locs cells slots) (hZ : Z.Warmed39 s.vm) {own : String} {index : Nat} {y : MethodName} (hown : s.vm.findClass own = some m.cls) (w : (Cond.methodRef own index y).before a0 Z = true) {mk : MethodId} (hn : Z.methodNamed? y = some mk) (hy : y.cls ≠ "java/lang/invoke/MethodHandle" ∧ y.cls ≠ "java/lang/invoke/VarHandle") :
    ∃ cY, T.vm.findClass y.cls = some cY ∧ namesResolved T.vm m.cls index cY ∧ T.vm.methodReady m.cls index mk := by
  have hT : Z.Warmed39 T.vm := wtrans hZ X.warmed
  have w2 := Cond.methodRef_warmed39 hT hn hy w
  have ho : (Z.setVm T.vm).vm.findClass own = some m.cls := by
    show T.vm.findClass own = some m.cls
    rw [X.warmed.alike.findClass]; exact hown
  obtain ⟨m', c', ci, b, h1, h2, h3, h4, h5⟩ := Cond.methodRef_spec (e := e) ho (show _ from w2)
  have hn' : (Z.setVm T.vm).methodNamed? y = some mk := by rw [State.methodNamed?_setVm hT.alike]; exact hn
  cases h1.symm.trans (State.methodFound?_of_named hn' hy)
  have hnames : (Z.setVm T.vm).names own index (.method y.cls y.name y.desc) = true := by
    have w3 := Cond.before_iff.mp w2
    simp only [Cond.value, ho, h1, Option.some.injEq, Bool.and_eq_true] at w3
    exact w3.1.1
  obtain ⟨cp, hcp, hn2⟩ := State.names_spec hnames
  obtain ⟨ci', nt, hentry, hnt, -⟩ := namesOf?_method hn2
  obtain ⟨k, cf, hk, hcf, rfl⟩ := State.poolOf?_spec ho hcp
  obtain ⟨b', hask⟩ := memberRef_ask' (e := e) hk hcf hentry hnt
  have hci : ci = ci' := by rw [h4] at hask; simp at hask; exact hask.1
  subst hci
  exact ⟨c', h3, ⟨k, cf, ci, nt, hk, hcf, hentry, h5⟩, h2⟩
/-- a private method of a nest mate by its contract, the entry being resolved -/
theorem own_privR (X : Stand p l e R s m args below meth c T locs cells slots) (hx : p.tables.exec = Jvm.exec) (hZ : Z.Warmed39 s.vm) {own : String} {index kk : Nat} {y : MethodName} (hown : s.vm.findClass own = some m.cls) (w : (Cond.methodRef own index y).before a0 Z = true)
    (wi : (Cond.instanceMethod y).before a0 Z = true) (wp : (Cond.privateMethod y).before a0 Z = true) (wn : (Cond.instantiable y.cls kk).before a0 Z = true) (hy : y.cls ≠ "java/lang/invoke/MethodHandle" ∧ y.cls ≠ "java/lang/invoke/VarHandle")
    {W : Nat} {Pre : Pt → Array Value → Prop} {Post : Pt → Array Value → Option Value → Pt → Prop} (hK : Back l R p e below s args y 3 W Pre Post)
    {g : JFrame} (hg : g.method = m) (hsize : g.locals.size = c.maxLocals) {s₀ : State} (hcome : Steps p.tables e below s₀ (T.setTop g)) {a : Addr} {cell : Cell} (hcell : T.heap[a]? = some cell) (hobj : ∀ q, cell.vm ≠ .statics q)
    {argsL rest : List Value} (hlen : ∀ sig, parseMethodDescriptor y.desc = some sig → argsL.length = sig.parameters.length)
    (hstack : g.stack = argsL.reverse ++ .ref a :: rest) (hW : 2 * g.monitorRoom + (rest.map fun v => v.category).sum ≤ W) (hdg : decode c.code g.pc = .ok (.invokevirtual index, 3))
    {bytes : ByteArray} {maxL : Nat} {ret : Option FieldType} (wc : (Cond.code y bytes maxL ret).before a0 Z = true)
    (hpre : ∀ vm₁, s.WarmedH vm₁ → Pre ⟨T.setVm vm₁, locs, cells, slots⟩ (.ref a :: argsL).toArray) :
    ∃ (v : Option Value) (vm₁ : Vm) (B : Pt), s.WarmedH vm₁ ∧ Stand p l e R s m args below meth c B.U B.locs B.cells B.slots ∧ Post ⟨T.setVm vm₁, locs, cells, slots⟩ (.ref a :: argsL).toArray v B ∧
      Steps p.tables e below s₀ (B.U.setTop { g with pc := g.pc + 3, stack := v.toList ++ rest }) := by
  obtain ⟨mk, methM, hnamed, hmethM, hstM, habM⟩ := Cond.instanceMethod_spec (mvT (args := args) hZ wi)
  obtain ⟨methM', cM, hmethM', -, -, -, -, -, -, hsigM⟩ := Cond.code_spec hnamed (mvT (args := args) hZ wc)
  cases hmethM.symm.trans hmethM'
  have hnZ : Z.methodNamed? y = some mk := by rw [← State.methodNamed?_setVm hZ.alike]; exact hnamed
  obtain ⟨cY, hcY, hnr, hready⟩ := own_mref X hZ hown w hnZ hy
  obtain ⟨cI, kI, i1, i2, -, i4, -, -⟩ := Cond.instantiable_spec (mvT (args := args) hZ wn)
  have hfc := findClass_of_methodNamed hnamed
  cases i1.symm.trans hfc
  have hni : kI.isInterface = false := by
    cases hk : kI.isInterface with
    | false => rfl
    | true => simp [hk] at i4
  have al := X.warmed.alike
  have hcY' : cY = mk.cls := by
    rw [al.findClass, hfc] at hcY
    exact (Option.some.inj hcY).symm
  subst hcY'
  obtain ⟨kx, hkx, hnx⟩ := className_of_methodNamed hnamed
  cases i2.symm.trans hkx
  obtain ⟨k2, hk2, he2⟩ := al.2.2 _ _ i2
  have hpriv : s.PrivateAt y := Cond.privateMethod_at (mvP hZ wp (args := #[]))
  have hsel : selectMethod e.platform s.vm cell.cls mk = .method mk := selectMethod_private hmethM (hpriv mk methM hnamed hmethM)
  have hm2 : T.vm.method? mk = some methM := by rw [al.method?]; exact hmethM
  have hstep : ∀ target, (∀ acts, Steps p.tables e below (doInvoke e (T.setTop { g with stack := rest }) acts mk (.ref a :: argsL).toArray).1 target) → Steps p.tables e below (T.setTop g) target := by
    intro target hrest
    subst hg
    jvm_step X.here [hx, hdg, invokevirtual.wp_named (e := e) (s := T) (f := g) (r := mk) (m := mk) (c' := mk.cls) (k := k2) (k' := k2) (mk := k2) (rmeth := methM) (meth := methM) (a := a) (args := argsL) (rest := rest) (cell := cell)
      X.here.top hnr hk2 (by rw [he2]; exact hni) hready hk2 hm2 (by rw [he2]; simp [signaturePolymorphic, hnx, hy.1, hy.2]) hstM (hlen _ hsigM) hstack hcell hobj
      (by rw [al.selectMethod]; exact hsel) hm2 habM hk2 (by rw [he2]; exact hni)]
    exact hrest
  obtain ⟨v, B, X', hpost, hsteps⟩ := hK m meth c ⟨T, locs, cells, slots⟩ { g with stack := rest } (.invokevirtual index) mk (Value.ref a :: argsL).toArray X hg hsize hdg hW (X.named hnamed) (show Pre ⟨T, locs, cells, slots⟩ (Value.ref a :: argsL).toArray from hpre T.vm X.warmed)
  exact ⟨v, T.vm, B, X.warmed, X', hpost, (hcome.trans (hstep _ fun acts => by rw [doInvoke_state]; exact Steps.refl _)).trans hsteps⟩
/-- a private constructor of a nest mate by its contract, the entry being resolved -/
theorem own_initR (X : Stand p l e R s m args below meth c T locs cells slots) (hx : p.tables.exec = Jvm.exec) (hZ : Z.Warmed39 s.vm) {own : String} {index : Nat} {y : MethodName} (hy1 : y.name = "<init>") (hown : s.vm.findClass own = some m.cls) (w : (Cond.methodRef own index y).before a0 Z = true)
    (wi : (Cond.instanceMethod y).before a0 Z = true) (hy : y.cls ≠ "java/lang/invoke/MethodHandle" ∧ y.cls ≠ "java/lang/invoke/VarHandle")
    {W : Nat} {Pre : Pt → Array Value → Prop} {Post : Pt → Array Value → Option Value → Pt → Prop} (hK : Back l R p e below s args y 3 W Pre Post)
    {g : JFrame} (hg : g.method = m) (hsize : g.locals.size = c.maxLocals) {s₀ : State} (hcome : Steps p.tables e below s₀ (T.setTop g)) {a : Addr}
    {argsL rest : List Value} (hlen : ∀ sig, parseMethodDescriptor y.desc = some sig → argsL.length = sig.parameters.length)
    (hstack : g.stack = argsL.reverse ++ .ref a :: rest) (hW : 2 * g.monitorRoom + (rest.map fun v => v.category).sum ≤ W) (hdg : decode c.code g.pc = .ok (.invokespecial index, 3))
    {bytes : ByteArray} {maxL : Nat} {ret : Option FieldType} (wc : (Cond.code y bytes maxL ret).before a0 Z = true)
    (hpre : ∀ vm₁, s.WarmedH vm₁ → Pre ⟨T.setVm vm₁, locs, cells, slots⟩ (.ref a :: argsL).toArray) :
    ∃ (v : Option Value) (vm₁ : Vm) (B : Pt), s.WarmedH vm₁ ∧ Stand p l e R s m args below meth c B.U B.locs B.cells B.slots ∧ Post ⟨T.setVm vm₁, locs, cells, slots⟩ (.ref a :: argsL).toArray v B ∧
      Steps p.tables e below s₀ (B.U.setTop { g with pc := g.pc + 3, stack := v.toList ++ rest }) := by
  obtain ⟨mk, methM, hnamed, hmethM, hstM, habM⟩ := Cond.instanceMethod_spec (mvT (args := args) hZ wi)
  obtain ⟨methM', cM, hmethM', -, -, -, -, -, -, hsigM⟩ := Cond.code_spec hnamed (mvT (args := args) hZ wc)
  cases hmethM.symm.trans hmethM'
  have hnZ : Z.methodNamed? y = some mk := by rw [← State.methodNamed?_setVm hZ.alike]; exact hnamed
  obtain ⟨cY, hcY, hnr, hready⟩ := own_mref X hZ hown w hnZ hy
  have hfc := findClass_of_methodNamed hnamed
  have al := X.warmed.alike
  have hcY' : cY = mk.cls := by
    rw [al.findClass, hfc] at hcY
    exact (Option.some.inj hcY).symm
  subst hcY'
  obtain ⟨kx, hkx, hnx⟩ := className_of_methodNamed hnamed
  obtain ⟨k2, hk2, he2⟩ := al.2.2 _ _ hkx
  have hm2 : T.vm.method? mk = some methM := by rw [al.method?]; exact hmethM
  obtain ⟨hname, hdesc⟩ := name_of_methodNamed hnamed hmethM
  have hstep : ∀ target, (∀ acts, Steps p.tables e below (doInvoke e (T.setTop { g with stack := rest }) acts mk (.ref a :: argsL).toArray).1 target) → Steps p.tables e below (T.setTop g) target := by
    intro target hrest
    subst hg
    jvm_step X.here [hx, hdg, invokespecial.wp_init (e := e) (s := T) (f := g) (m := mk) (k := k2) (meth := methM) (a := a) (args := argsL) (rest := rest)
      X.here.top hnr hready hk2 hm2 (hname.trans hy1) hstM habM (by rw [al.lookupSpecial, hdesc, ← hy1]; exact lookupSpecial_of_named hnamed hmethM hstM) (hlen _ hsigM) hstack]
    exact hrest
  obtain ⟨v, B, X', hpost, hsteps⟩ := hK m meth c ⟨T, locs, cells, slots⟩ { g with stack := rest } (.invokespecial index) mk (Value.ref a :: argsL).toArray X hg hsize hdg hW (X.named hnamed) (show Pre ⟨T, locs, cells, slots⟩ (Value.ref a :: argsL).toArray from hpre T.vm X.warmed)
  exact ⟨v, T.vm, B, X.warmed, X', hpost, (hcome.trans (hstep _ fun acts => by rw [doInvoke_state]; exact Steps.refl _)).trans hsteps⟩
/-- a field of a nest mate is written, the entry being resolved; the field isn't final -/
theorem own_putFR (X : Stand p l e R s m args below meth c T locs cells slots) (hx : p.tables.exec = Jvm.exec) (hZ : Z.Warmed39 s.vm) {own O n d C : String} {index kk : Nat} {ty : FieldType} (hown : s.vm.findClass own = some m.cls) (w : (Cond.fieldRef own index O n d).before a0 Z = true)
    (eT : T.heap = h) {a : Addr} {v old : Value} (F : Fld Z h a O n d old) (E : Exa Z h a C) (L : (Cond.lays C O n d).before a0 Z = true) (wi : (Cond.instantiable C kk).before a0 Z = true)
    (hty : parseFieldDescriptor d = some ty) (hn : narrow ty v = v) (hf : fits ty v = true) {g : JFrame} (hg : g.method = m) {rest : List Value} (hs : g.stack = v :: .ref a :: rest) (hd : decode c.code g.pc = .ok (.putfield index, 3)) :
    ∃ T' h', Stand p l e R s m args below meth c T' (locs ++ [⟨a, slotOf Z O n d⟩]) cells slots ∧ T'.heap = h' ∧ Wr h h' a (slotOf Z O n d) v ∧ ∀ target, Steps p.tables e below (T'.setTop { g with pc := g.pc + 3, stack := rest }) target → Steps p.tables e below (T.setTop g) target := by
  obtain ⟨cell, cf, k, i, f, h1, h2, h3, h4, h5, h6, h7⟩ := F
  obtain ⟨cell', kc, e1, e2, e3, e4, e5⟩ := E
  cases h1.symm.trans e1
  obtain ⟨c1, k1, cf1, kf1, i1, f1, a1, a2, a3, a4, a5, a6, a7, -⟩ := Cond.lays_spec L
  cases h2.symm.trans a3
  cases e2.symm.trans a1
  cases e3.symm.trans a2
  obtain ⟨c2, k2, j1, j2, j3, -⟩ := Cond.instantiable_spec wi
  cases e2.symm.trans j1
  cases e3.symm.trans j2
  have hft := (State.fieldFound?_type h2 hty).2
  have hr := own_fref X hZ hown w h2
  have hlt : f.slot < cell.slots.size := (Array.getElem?_eq_some_iff.mp h7).1
  have hst : cell.vm.isStatics = false := e4
  have hq : Z.slotType? cell.cls cell.vm f.slot = some ty := by
    simp only [State.slotType?, e3, Option.bind_eq_bind, Option.bind_some, j3]
    cases hv : cell.vm <;> first | (rw [hv] at hst; exact Bool.noConfusion hst) | (rw [a7, hft])
  have hfit : Z.fitsSlot cell.cls cell.vm f.slot v = true := by simp [State.fitsSlot, hq, hf]
  have hT : Z.Warmed39 T.vm := wtrans hZ X.warmed
  have hfitT : T.fitsSlot cell.cls cell.vm f.slot v = true := by
    have := hfit
    rw [← State.fitsSlot_setVm hT.alike] at this
    exact this
  have hsl : slotOf Z O n d = f.slot := by simp [slotOf, h2]
  obtain ⟨X', st⟩ := X.putfieldReady hx hr h3 (Or.inl a5) (show T.heap[a]? = some cell by rw [eT]; exact h1) h4 hlt (by rw [hft]; exact hn) hfitT hg hs hd
  rw [hsl]
  exact ⟨_, _, X', rfl, ⟨cell, h1, hst, hlt, by subst eT; rfl⟩, st⟩
end Refs
end Jvm.RoadKit
namespace Jvm.RoadKit
open Sem ClassFile Op Lib Jvm.Stand Jvm.Free Jvm.LawKit
section Sync
variable {p : Program} {l : Launch} {e : Env} {R : Room} {s : State} {m : MethodId} {args : Array Value} {below : List Frame} {meth : Method} {c : Code} {T : State} {locs : List Loc} {cells slots : Nat} {Z : State} {a0 : Array Value} {h h' : Heap}
theorem own_sigC {y : MethodName} {bytes : ByteArray} {maxL : Nat} {ret : Option FieldType} (wc : (Cond.code y bytes maxL ret).before args s = true) : ∀ mk methM, s.methodNamed? y = some mk → s.vm.method? mk = some methM → parseMethodDescriptor y.desc = some methM.sig := fun mk mm hn hm => by
  obtain ⟨m2, c2, q1, -, -, -, -, -, -, hs⟩ := Cond.code_spec hn wc
  cases hm.symm.trans q1
  exact hs
theorem own_sigS {y : MethodName} {bytes : ByteArray} {maxL : Nat} {ret : Option FieldType} (wc : (Cond.codeSync y bytes maxL ret).before args s = true) : ∀ mk methM, s.methodNamed? y = some mk → s.vm.method? mk = some methM → parseMethodDescriptor y.desc = some methM.sig := fun mk mm hn hm => by
  obtain ⟨m2, c2, q1, -, -, -, -, -, -, hs⟩ := Cond.codeSync_spec hn wc
  cases hm.symm.trans q1
  exact hs
/-- a private method by its contract, whatever its entry word is; 'selects' of any class below it -/
theorem own_privG (X : Stand p l e R s m args below meth c T locs cells slots) (hx : p.tables.exec = Jvm.exec) {own C : String} {index : Nat} {y : MethodName} (hown : s.vm.findClass own = some m.cls) (hlink : (Cond.methodLink own index y).before args s = true)
    (hinst : (Cond.instanceMethod y).before args s = true) (hsel : (Cond.selects C y y).before args s = true) (hpriv : s.PrivateAt y) (hsig : ∀ mk methM, s.methodNamed? y = some mk → s.vm.method? mk = some methM → parseMethodDescriptor y.desc = some methM.sig)
    (hy : y.cls ≠ "java/lang/invoke/MethodHandle" ∧ y.cls ≠ "java/lang/invoke/VarHandle") {W : Nat} {Pre : Pt → Array Value → Prop} {Post : Pt → Array Value → Option Value → Pt → Prop} (hK : Back l R p e below s args y 3 W Pre Post)
    {g : JFrame} (hg : g.method = m) (hsize : g.locals.size = c.maxLocals) {s₀ : State} (hcome : Steps p.tables e below s₀ (T.setTop g)) {a : Addr} {cell : Cell} (hcell : T.heap[a]? = some cell) (hobj : ∀ q, cell.vm ≠ .statics q)
    {argsL rest : List Value} (hlen : ∀ sig, parseMethodDescriptor y.desc = some sig → argsL.length = sig.parameters.length)
    (hstack : g.stack = argsL.reverse ++ .ref a :: rest) (hW : 2 * g.monitorRoom + (rest.map fun v => v.category).sum ≤ W) (hdg : decode c.code g.pc = .ok (.invokevirtual index, 3))
    (hpre : ∀ vm₁, s.WarmedH vm₁ → Pre ⟨T.setVm vm₁, locs, cells, slots⟩ (.ref a :: argsL).toArray) :
    ∃ (v : Option Value) (vm₁ : Vm) (B : Pt), s.WarmedH vm₁ ∧ Stand p l e R s m args below meth c B.U B.locs B.cells B.slots ∧ Post ⟨T.setVm vm₁, locs, cells, slots⟩ (.ref a :: argsL).toArray v B ∧
      Steps p.tables e below s₀ (B.U.setTop { g with pc := g.pc + 3, stack := v.toList ++ rest }) := by
  obtain ⟨mk, methM, hnamed, hmethM, hstM, habM⟩ := Cond.instanceMethod_spec hinst
  have hsigM := hsig mk methM hnamed hmethM
  obtain ⟨c2, r2, m2, -, -, q3, -, kP, hkP, hkPi⟩ := Cond.selects_spec hsel
  cases hnamed.symm.trans q3
  have hselP : selectMethod e.platform s.vm cell.cls mk = .method mk := selectMethod_private hmethM (hpriv mk methM hnamed hmethM)
  obtain ⟨vm₁, X₁, hstep₁⟩ := X.invokevirtual hx hown hlink hnamed hmethM hstM hkP hkPi hy (a := a) (cell := cell) hcell hobj hselP hmethM habM hkP hkPi (g := g) hg (argsL := argsL) (rest := rest) (hlen _ hsigM) hstack hdg
  obtain ⟨v, B, X', hpost, hsteps⟩ := hK m meth c ⟨T.setVm vm₁, locs, cells, slots⟩ { g with stack := rest } (.invokevirtual index) mk (.ref a :: argsL).toArray X₁ hg hsize hdg hW (X₁.named hnamed) (hpre vm₁ X₁.warmed)
  exact ⟨v, vm₁, B, X₁.warmed, X', hpost, (hcome.trans (hstep₁ _ fun acts => by rw [doInvoke_state]; exact Steps.refl _)).trans hsteps⟩
/-- the payer of a synchronized method, in backOf's shape; the receiver's monitor is free -/
theorem own_backS {y : MethodName} {bytes : ByteArray} {maxL : Nat} {ret : Option FieldType} {rm : Room} {len W : Nat} {as' : Array Value} {a : Addr} {Q : Option Value → Heap → List Loc → Prop}
    (hM : MetFree l y (head1 [Cond.codeSync y bytes maxL ret, Cond.instanceMethod y] rm) (fun as U => as = as' ∧ Z.Warmed39 U.vm ∧ U.heap = h ∧ ∃ cell : Cell, h[a]? = some cell ∧ cell.enterable U.cur) (fun _ _ _ _ _ => True) (fun _ U o U' => ∃ v L, o = .returned v ∧ Q v U'.heap L ∧ FrameEnd U o U' L rm.cells rm.slots))
    (hZ : Z.Warmed39 s.vm) (wc : (Cond.codeSync y bytes maxL ret).before a0 Z = true) (wi : (Cond.instanceMethod y).before a0 Z = true) (wz : (Cond.initialized y.cls).before a0 Z = true) (N : Unt h a) (hf : rm.frames + 1 ≤ R.frames) (hl : W + (maxL + 11) + rm.locals ≤ R.locals) :
    Back l R p e below s args y len W (fun A as => as = as' ∧ A.U.heap = h ∧ A.cells + rm.cells ≤ R.cells ∧ A.slots + rm.slots ≤ R.slots)
      (fun A _ v B => ∃ L, Q v B.U.heap L ∧ B.locs = A.locs ++ L ∧ B.cells = A.cells + rm.cells ∧ B.slots = A.slots + rm.slots) :=
  Jvm.Free.XT.back_of_sync (bytes := bytes) (maxL := maxL) (ret := ret) (E := fun _ _ o t L k n => k = rm.cells ∧ n = rm.slots ∧ ∃ v, o = .returned v ∧ Q v t.heap L) hM hf hl
    (fun m meth c A as Y hp => have hU : Z.Warmed39 A.U.vm := wtrans hZ Y.warmed
      ⟨by show (Cond.and _ (Cond.and _ .tt)).before as A.U = true; rw [Cond.before_and, Cond.before_and, mv hU wc, mv hU wi]; rfl, mv hU wc, mv hU wz, hp.2.2.1, hp.2.2.2⟩)
    (fun m meth c A as g mk Y hp => ⟨hp.1, wtrans hZ Y.warmed, hp.2.1, by obtain ⟨cl, u1, -, u3⟩ := N; exact ⟨cl, u1, by rw [Cell.enterable, u3]; simp⟩⟩)
    (fun _ _ _ _ _ _ _ _ _ => trivial)
    (fun _ _ _ _ ⟨v, L, h1, h2, h3⟩ => ⟨L, _, _, h3, rfl, rfl, v, h1, h2⟩)
    (fun m meth c A as g mk v t L k n Y hp _ _ ⟨e1, e2, v', e3, e4⟩ => by cases e3; subst e1 e2; exact ⟨L, e4, rfl, rfl, rfl⟩)
theorem own_sameDecl {y x z : MethodName} {C : String} (hd : (Cond.declares y).before a0 Z = true) (hs : (Cond.selects C x z).before a0 Z = true) (hz : z.cls = y.cls) (hy : y.cls ≠ "java/lang/invoke/MethodHandle" ∧ y.cls ≠ "java/lang/invoke/VarHandle") : (Cond.sameMethod y.cls y.cls y.name y.desc).before a0 Z = true := by
  obtain ⟨m, meth, hn, -⟩ := Cond.declares_spec hd
  obtain ⟨c, r, m2, -, -, h3, -, mk, h4, h5⟩ := Cond.selects_spec hs
  have hf := State.methodFound?_of_named hn hy
  have hc := findClass_of_methodNamed hn
  have hc2 := findClass_of_methodNamed h3
  rw [hz] at hc2
  have e : m2.cls = m.cls := Option.some.inj (hc2.symm.trans hc)
  rw [e] at h4
  obtain ⟨yc, yn, yd⟩ := y
  simp only at hf hc
  simp [Cond.before, Cond.holds, Cond.value, hc, hf, hn, h4, h5]
theorem own_arvMon {b : Addr} {k : ClassId} {ty : FieldType} {z : Int32} {vs : List Value} {d : Value} (W : Mon h h') (F : Arv Z h b k ty z vs d) : Arv Z h' b k ty z vs d := by
  obtain ⟨c, A, r⟩ := F
  obtain ⟨mo, q⟩ := W.2 _ _ A.1
  exact ⟨_, ⟨q, A.2.1, A.2.2⟩, r⟩
theorem own_oldSet {n0 : Nat} {a : Addr} {c : Cell} (O : Old Z n0 h) (hn : n0 ≤ a) : Old Z n0 (h.setIfInBounds a c) :=
  ⟨O.1, by rw [Array.size_setIfInBounds]; exact O.2.1, fun x d q => by
    have h1 : x < n0 := O.1 ▸ (Array.getElem?_eq_some_iff.mp q).1
    rw [Array.getElem?_setIfInBounds_ne (fun z => absurd (Nat.lt_of_lt_of_le h1 hn) (by rw [z]; exact Nat.lt_irrefl _))]
    exact O.2.2 x d q⟩
theorem own_oldEnd {s0 V : State} {n0 : Nat} {L : List Loc} {k n : Nat} (hs : s0.sameButNew { V with vm := s0.vm } L k n) (N : Fr n0 L) (O : Old Z n0 s0.heap) : Old Z n0 V.heap :=
  ⟨O.1, Nat.le_trans O.2.1 hs.2.1, fun x d q => by
    have h1 : x < n0 := O.1 ▸ (Array.getElem?_eq_some_iff.mp q).1
    obtain ⟨c', hc', he, hsz, hsl⟩ := hs.2.2.2.2.2 x d (O.2.2 x d q)
    have h2 : c'.slots = d.slots := Array.ext (by rw [hsz]) (fun i i1 i2 => by
      have := hsl i (fun z => absurd h1 (Nat.not_lt.mpr (N _ z)))
      rw [Array.getElem?_eq_getElem i1, Array.getElem?_eq_getElem i2] at this
      exact Option.some.inj this)
    have h3 : c' = d := by rw [he, h2]
    rw [← h3]; exact hc'⟩
theorem own_untEnd {s0 V : State} {a : Addr} {L : List Loc} {k n : Nat} (hs : s0.sameButNew { V with vm := s0.vm } L k n) (U : Unt s0.heap a) : Unt V.heap a := by
  obtain ⟨d, q, r1, r2⟩ := U
  obtain ⟨c', hc', he, -⟩ := hs.2.2.2.2.2 a d q
  refine ⟨c', hc', ?_, ?_⟩
  · rw [he]; exact r1
  · rw [he]; exact r2
end Sync
end Jvm.RoadKit
namespace Jvm.RoadKit
open Sem ClassFile Op Lib Jvm.Stand Jvm.Free Jvm.LawKit
theorem own_notFace {s : State} {args : Array Value} {C : String} {x y z : MethodName} (hs : (Cond.selects C x z).before args s = true) (hz : z.cls = y.cls) : NotFace s y := fun r0 h0 => by
  obtain ⟨c, r, m2, -, -, h3, -, mk, h4, h5⟩ := Cond.selects_spec hs
  have hc := findClass_of_methodNamed h0
  have hc2 := findClass_of_methodNamed h3
  rw [hz] at hc2
  have e : m2.cls = r0.cls := Option.some.inj (hc2.symm.trans hc)
  rw [e] at h4
  exact ⟨mk, h4, h5⟩
end Jvm.RoadKit
namespace Jvm.RoadKit
open Sem ClassFile Op Lib Jvm.Stand Jvm.Free Jvm.LawKit
section Cps
variable {p : Program} {l : Launch} {e : Env} {R : Room} {s : State} {m : MethodId} {args : Array Value} {below : List Frame} {meth : Method} {c : Code} {T : State} {locs : List Loc} {cells slots : Nat} {Z : State} {a0 : Array Value} {h : Heap} {Post : Outcome → State → Prop} {pc : Nat} {Ls : Array Slot} {st : List Value}
theorem own_st (q : Nat) (st' : List Value) (h1 : ∀ t, Steps p.tables e below (T.setTop (mkF m q Ls st')) t → Steps p.tables e below (T.setTop (mkF m pc Ls st)) t) (k : own_Fin p.tables e below Post (T.setTop (mkF m q Ls st'))) : own_Fin p.tables e below Post (T.setTop (mkF m pc Ls st)) := own_Fin.step h1 k
theorem own_sl (q : Nat) (Ls' : Array Slot) (st' : List Value) (h1 : ∀ t, Steps p.tables e below (T.setTop (mkF m q Ls' st')) t → Steps p.tables e below (T.setTop (mkF m pc Ls st)) t) (k : own_Fin p.tables e below Post (T.setTop (mkF m q Ls' st'))) : own_Fin p.tables e below Post (T.setTop (mkF m pc Ls st)) := own_Fin.step h1 k
theorem own_sT {T' : State} (q : Nat) (st' : List Value) (h1 : ∀ t, Steps p.tables e below (T'.setTop (mkF m q Ls st')) t → Steps p.tables e below (T.setTop (mkF m pc Ls st)) t) (k : own_Fin p.tables e below Post (T'.setTop (mkF m q Ls st'))) : own_Fin p.tables e below Post (T.setTop (mkF m pc Ls st)) := own_Fin.step h1 k
theorem own_nO (X : Stand p l e R s m args below meth c T locs cells slots) (hx : p.tables.exec = Jvm.exec) (hZ : Z.Warmed39 s.vm) {own C : String} {index n : Nat} (hown : s.vm.findClass own = some m.cls) (w : (Cond.classLink own index C).before a0 Z = true) (wi : (Cond.instantiable C n).before a0 Z = true) (wz : (Cond.initialized C).before a0 Z = true) (eT : T.heap = h)
    (q : Nat) (hd : decode c.code pc = .ok (.new index, 3)) (hq : pc + 3 = q) (hc : cells + 1 ≤ R.cells) (hl : slots + n ≤ R.slots)
    (k : ∀ T' h' b, b = h.size → Stand p l e R s m args below meth c T' locs (cells + 1) (slots + n) → T'.heap = h' → Ext h h' → Exa Z h' b C → (∀ {O nm d : String} {ty : FieldType}, Laid Z a0 C O nm d → parseFieldDescriptor d = some ty → Fld Z h' b O nm d (defaultValue ty)) → Unt h' b → own_Fin p.tables e below Post (T'.setTop (mkF m q Ls (.ref b :: st)))) : own_Fin p.tables e below Post (T.setTop (mkF m pc Ls st)) := by
  subst hq
  obtain ⟨T', h', X', e', E', A', D', U', t⟩ := newO X hx hZ hown w wi wz eT (g := mkF m pc Ls st) rfl hd hc hl
  exact own_Fin.step t (k T' h' _ rfl X' e' E' A' D' U')
theorem own_nP (X : Stand p l e R s m args below meth c T locs cells slots) (hx : p.tables.exec = Jvm.exec) (hZ : Z.Warmed39 s.vm) {aty : ArrayType} (w : (Cond.arrayClass (newarray.typeOf aty)).before a0 Z = true) (eT : T.heap = h) (q : Nat) (hd : decode c.code pc = .ok (.newarray aty, 2)) (hq : pc + 2 = q) {n : Int32} {rest : List Value} (hs : st = .int n :: rest)
    (hn : ¬ n < 0) {cap : Nat} (hcap : n.toNatClampNeg ≤ cap) (hb : cap * 8 ≤ 536870912) (hc : cells + 1 ≤ R.cells) (hl : slots + cap ≤ R.slots) {ad : String} (had : "[" ++ (newarray.typeOf aty).toString = ad)
    (k : ∀ T' h' cA b, b = h.size → Stand p l e R s m args below meth c T' locs (cells + 1) (slots + cap) → T'.heap = h' → Ext h h' → Arr Z h' b (newA cA (newarray.typeOf aty) n) (newarray.typeOf aty) → Exa Z h' b ad → own_Fin p.tables e below Post (T'.setTop (mkF m q Ls (.ref b :: rest)))) : own_Fin p.tables e below Post (T.setTop (mkF m pc Ls st)) := by
  subst hq hs
  obtain ⟨T', h', cA, X', e', E', A', B', t⟩ := newPE X hx hZ w eT (g := mkF m pc Ls (.int n :: rest)) rfl hd rfl hn hcap hb hc hl had
  exact own_Fin.step t (k T' h' cA _ rfl X' e' E' A' B')
theorem own_nR (X : Stand p l e R s m args below meth c T locs cells slots) (hx : p.tables.exec = Jvm.exec) (hZ : Z.Warmed39 s.vm) {own C : String} {index : Nat} (hown : s.vm.findClass own = some m.cls) (w1 : (Cond.classLink own index C).before a0 Z = true) (w2 : (Cond.arrayOver (.object C)).before a0 Z = true)
    (eT : T.heap = h) (q : Nat) (hd : decode c.code pc = .ok (.anewarray index, 3)) (hq : pc + 3 = q) {n : Int32} {rest : List Value} (hs : st = .int n :: rest) (hn : ¬ n < 0) {cap : Nat} (hcap : n.toNatClampNeg ≤ cap) (hb : cap * 8 ≤ 536870912) (hc : cells + 1 ≤ R.cells) (hl : slots + cap ≤ R.slots) {ad : String} (had : "[" ++ (FieldType.object C).toString = ad)
    (k : ∀ T' h' cA b, b = h.size → Stand p l e R s m args below meth c T' locs (cells + 1) (slots + cap) → T'.heap = h' → Ext h h' → Arr Z h' b (newA cA (.object C) n) (.object C) → Exa Z h' b ad → Ovr Z cA C → own_Fin p.tables e below Post (T'.setTop (mkF m q Ls (.ref b :: rest)))) : own_Fin p.tables e below Post (T.setTop (mkF m pc Ls st)) := by
  subst hq hs
  obtain ⟨T', h', cA, X', e', E', A', B', O', t⟩ := newRE X hx hZ hown w1 w2 eT (g := mkF m pc Ls (.int n :: rest)) rfl hd rfl hn hcap hb hc hl had
  exact own_Fin.step t (k T' h' cA _ rfl X' e' E' A' B' O')
theorem own_go (q : Nat) (X : Stand p l e R s m args below meth c T locs cells slots) (hx : p.tables.exec = Jvm.exec) {o : Int} (hd : decode c.code pc = .ok (.goto o, 3)) (ho : 0 ≤ (pc : Int) + o) (hp : ((pc : Int) + o).toNat = q) (k : own_Fin p.tables e below Post (T.setTop (mkF m q Ls st))) : own_Fin p.tables e below Post (T.setTop (mkF m pc Ls st)) :=
  own_Fin.step (fun t r => XS.goto X.here hx rfl (pc0 := pc) (pc' := q) rfl hd ho hp r) k
theorem own_iY (q : Nat) (X : Stand p l e R s m args below meth c T locs cells slots) (hx : p.tables.exec = Jvm.exec) {cd : ClassFile.Cond} {x : Int32} {rest : List Value} {o : Int} (hd : decode c.code pc = .ok (.ifCond cd o, 3)) (hs : st = .int x :: rest) (hc : ifCond.holds cd x = true) (ho : 0 ≤ (pc : Int) + o) (hp : ((pc : Int) + o).toNat = q) (k : own_Fin p.tables e below Post (T.setTop (mkF m q Ls rest))) : own_Fin p.tables e below Post (T.setTop (mkF m pc Ls st)) :=
  own_Fin.step (fun t r => XS.ifYes X.here hx rfl (pc0 := pc) (pc' := q) rfl hd hs hc ho hp r) k
theorem own_iN (q : Nat) (X : Stand p l e R s m args below meth c T locs cells slots) (hx : p.tables.exec = Jvm.exec) {cd : ClassFile.Cond} {x : Int32} {rest : List Value} {o : Int} (hd : decode c.code pc = .ok (.ifCond cd o, 3)) (hs : st = .int x :: rest) (hc : ifCond.holds cd x = false) (hq : pc + 3 = q) (k : own_Fin p.tables e below Post (T.setTop (mkF m q Ls rest))) : own_Fin p.tables e below Post (T.setTop (mkF m pc Ls st)) := by
  subst hq
  exact own_Fin.step (fun t r => XS.ifNo X.here hx rfl hd hs hc r) k
theorem own_kY (q : Nat) (X : Stand p l e R s m args below meth c T locs cells slots) (hx : p.tables.exec = Jvm.exec) {cd : ClassFile.Cond} {x y : Int32} {rest : List Value} {o : Int} (hd : decode c.code pc = .ok (.if_icmp cd o, 3)) (hs : st = .int y :: .int x :: rest) (hc : if_icmp.holds cd x y = true) (ho : 0 ≤ (pc : Int) + o) (hp : ((pc : Int) + o).toNat = q) (k : own_Fin p.tables e below Post (T.setTop (mkF m q Ls rest))) : own_Fin p.tables e below Post (T.setTop (mkF m pc Ls st)) :=
  own_Fin.step (fun t r => XS.icmpYes X.here hx rfl (pc0 := pc) (pc' := q) rfl hd hs hc ho hp r) k
theorem own_kN (q : Nat) (X : Stand p l e R s m args below meth c T locs cells slots) (hx : p.tables.exec = Jvm.exec) {cd : ClassFile.Cond} {x y : Int32} {rest : List Value} {o : Int} (hd : decode c.code pc = .ok (.if_icmp cd o, 3)) (hs : st = .int y :: .int x :: rest) (hc : if_icmp.holds cd x y = false) (hq : pc + 3 = q) (k : own_Fin p.tables e below Post (T.setTop (mkF m q Ls rest))) : own_Fin p.tables e below Post (T.setTop (mkF m pc Ls st)) := by
  subst hq
  exact own_Fin.step (fun t r => XS.icmpNo X.here hx rfl hd hs hc r) k
theorem own_gF (X : Stand p l e R s m args below meth c T locs cells slots) (hx : p.tables.exec = Jvm.exec) (hZ : Z.Warmed39 s.vm) {own R0 O n d host : String} {index : Nat} (hown : s.vm.findClass own = some m.cls) (w : (Cond.fieldLink own index R0 n d).before a0 Z = true ∨ (Cond.fieldLinkNest own index R0 n d host).before a0 Z = true) (via : Via Z R0 O n d) (eT : T.heap = h) {a : Addr} {v : Value} (F : Fld Z h a O n d v) {rest : List Value} (q : Nat) (hs : st = .ref a :: rest) (hd : decode c.code pc = .ok (.getfield index, 3)) (hq : pc + 3 = q)
    (k : ∀ T', Stand p l e R s m args below meth c T' locs cells slots → T'.heap = h → own_Fin p.tables e below Post (T'.setTop (mkF m q Ls (v :: rest)))) : own_Fin p.tables e below Post (T.setTop (mkF m pc Ls st)) := by
  subst hq hs
  obtain ⟨T', a', b', t⟩ := getF X hx hZ hown w via eT F (g := mkF m pc Ls (.ref a :: rest)) rfl rfl hd
  exact own_Fin.step t (k T' a' b')
theorem own_gR (X : Stand p l e R s m args below meth c T locs cells slots) (hx : p.tables.exec = Jvm.exec) (hZ : Z.Warmed39 s.vm) {own O R0 n d : String} {index : Nat} (hown : s.vm.findClass own = some m.cls) (w : (Cond.fieldRef own index R0 n d).before a0 Z = true) (via : Via Z R0 O n d) (eT : T.heap = h) {a : Addr} {v : Value} (F : Fld Z h a O n d v) {rest : List Value} (q : Nat) (hs : st = .ref a :: rest) (hd : decode c.code pc = .ok (.getfield index, 3)) (hq : pc + 3 = q)
    (k : ∀ T', Stand p l e R s m args below meth c T' locs cells slots → T'.heap = h → own_Fin p.tables e below Post (T'.setTop (mkF m q Ls (v :: rest)))) : own_Fin p.tables e below Post (T.setTop (mkF m pc Ls st)) := by
  subst hq hs
  obtain ⟨T', a', b', t⟩ := own_getFR X hx hZ hown w via eT F (g := mkF m pc Ls (.ref a :: rest)) rfl rfl hd
  exact own_Fin.step t (k T' a' b')
theorem own_gS (X : Stand p l e R s m args below meth c T locs cells slots) (hx : p.tables.exec = Jvm.exec) (hZ : Z.Warmed39 s.vm) {own R0 O n d host : String} {index : Nat} (hown : s.vm.findClass own = some m.cls) (w : (Cond.fieldLink own index R0 n d).before a0 Z = true ∨ (Cond.fieldLinkNest own index R0 n d host).before a0 Z = true) (via : Via Z R0 O n d) (eT : T.heap = h) {v : Value} (F : Sta Z h O n d v) (q : Nat) (hd : decode c.code pc = .ok (.getstatic index, 3)) (hq : pc + 3 = q)
    (k : ∀ T', Stand p l e R s m args below meth c T' locs cells slots → T'.heap = h → own_Fin p.tables e below Post (T'.setTop (mkF m q Ls (v :: st)))) : own_Fin p.tables e below Post (T.setTop (mkF m pc Ls st)) := by
  subst hq
  obtain ⟨T', a', b', t⟩ := getS2 X hx hZ hown w via eT F (g := mkF m pc Ls st) rfl hd
  exact own_Fin.step t (k T' a' b')
theorem own_ca (X : Stand p l e R s m args below meth c T locs cells slots) (hx : p.tables.exec = Jvm.exec) (hZ : Z.Warmed39 s.vm) {own K : String} {index : Nat} (hown : s.vm.findClass own = some m.cls) (w : (Cond.classLink own index K).before a0 Z = true) (eT : T.heap = h) {a : Addr} (F : Ins Z h a K true) {rest : List Value} (q : Nat) (hs : st = .ref a :: rest) (hd : decode c.code pc = .ok (.checkcast index, 3)) (hq : pc + 3 = q)
    (k : ∀ T', Stand p l e R s m args below meth c T' locs cells slots → T'.heap = h → own_Fin p.tables e below Post (T'.setTop (mkF m q Ls (.ref a :: rest)))) : own_Fin p.tables e below Post (T.setTop (mkF m pc Ls st)) := by
  subst hq hs
  obtain ⟨T', a', b', t⟩ := castY X hx hZ hown w eT F (g := mkF m pc Ls (.ref a :: rest)) rfl rfl hd
  exact own_Fin.step t (k T' a' b')
theorem own_iO (X : Stand p l e R s m args below meth c T locs cells slots) (hx : p.tables.exec = Jvm.exec) (hZ : Z.Warmed39 s.vm) {own : String} {idx : Nat} (hown : s.vm.findClass own = some m.cls) (w1 : (Cond.methodLink own idx Lib.objectInit).before a0 Z = true) (w2 : (Cond.instanceMethod Lib.objectInit).before a0 Z = true) (w3 : (Cond.code Lib.objectInit ⟨#[0xb1]⟩ 1 none).before a0 Z = true) (eT : T.heap = h) {a : Addr} {rest : List Value} (q W : Nat) (hsz : Ls.size = c.maxLocals) (hs : st = .ref a :: rest) (hd : decode c.code pc = .ok (.invokespecial idx, 3)) (hq : pc + 3 = q) (hf : 1 ≤ R.frames) (hW : 2 * 0 + (rest.map fun v => v.category).sum = W) (hl : W + 12 ≤ R.locals)
    (k : ∀ T', Stand p l e R s m args below meth c T' locs cells slots → T'.heap = h → own_Fin p.tables e below Post (T'.setTop (mkF m q Ls (rest)))) : own_Fin p.tables e below Post (T.setTop (mkF m pc Ls st)) := by
  subst hq hs
  obtain ⟨T', a', b', t⟩ := initO X hx hZ hown w1 w2 w3 eT (g := mkF m pc Ls (.ref a :: rest)) rfl hsz rfl hd hf (W := W) (Nat.le_of_eq hW) hl
  exact own_Fin.step t (k T' a' b')
theorem own_pF (X : Stand p l e R s m args below meth c T locs cells slots) (hx : p.tables.exec = Jvm.exec) (hZ : Z.Warmed39 s.vm) {own R0 O n d host C : String} {index kk : Nat} {ty : FieldType} (hown : s.vm.findClass own = some m.cls) (w : (Cond.fieldLink own index R0 n d).before a0 Z = true ∨ (Cond.fieldLinkNest own index R0 n d host).before a0 Z = true) (via : Via Z R0 O n d) (eT : T.heap = h) {a : Addr} {v old : Value} (F : Fld Z h a O n d old) (E : Exa Z h a C) (L : (Cond.lays C O n d).before a0 Z = true ∨ ((Cond.laysFinal C O n d).before a0 Z = true ∧ own = O ∧ meth.name = "<init>")) (wi : (Cond.instantiable C kk).before a0 Z = true) (hty : parseFieldDescriptor d = some ty) (hn : narrow ty v = v) (hf : fits ty v = true) {rest : List Value} (q : Nat) (hs : st = v :: .ref a :: rest) (hd : decode c.code pc = .ok (.putfield index, 3)) (hq : pc + 3 = q)
    (k : ∀ T' h', Stand p l e R s m args below meth c T' (locs ++ [⟨a, slotOf Z O n d⟩]) cells slots → T'.heap = h' → Wr h h' a (slotOf Z O n d) v → own_Fin p.tables e below Post (T'.setTop (mkF m q Ls rest))) : own_Fin p.tables e below Post (T.setTop (mkF m pc Ls st)) := by
  subst hq hs
  obtain ⟨T', h', a', b', c', t⟩ := putF X hx hZ hown w via eT F E L wi hty hn hf (g := mkF m pc Ls (v :: .ref a :: rest)) rfl rfl hd
  exact own_Fin.step t (k T' h' a' b' c')
theorem own_pN (X : Stand p l e R s m args below meth c T locs cells slots) (hx : p.tables.exec = Jvm.exec) (hZ : Z.Warmed39 s.vm) {own R0 O n d C : String} {index kk : Nat} {ty : FieldType} (hown : s.vm.findClass own = some m.cls) (w : (Cond.fieldLink own index R0 n d).before a0 Z = true) (via : Via Z R0 O n d) (eT : T.heap = h) {a : Addr} {v v' old : Value} (F : Fld Z h a O n d old) (E : Exa Z h a C) (L : (Cond.lays C O n d).before a0 Z = true ∨ ((Cond.laysFinal C O n d).before a0 Z = true ∧ own = O ∧ meth.name = "<init>")) (wi : (Cond.instantiable C kk).before a0 Z = true) (hty : parseFieldDescriptor d = some ty) (hn : narrow ty v = v') (hf : fits ty v' = true) {rest : List Value} (q : Nat) (hs : st = v :: .ref a :: rest) (hd : decode c.code pc = .ok (.putfield index, 3)) (hq : pc + 3 = q)
    (k : ∀ T' h', Stand p l e R s m args below meth c T' (locs ++ [⟨a, slotOf Z O n d⟩]) cells slots → T'.heap = h' → Wr h h' a (slotOf Z O n d) v' → own_Fin p.tables e below Post (T'.setTop (mkF m q Ls rest))) : own_Fin p.tables e below Post (T.setTop (mkF m pc Ls st)) := by
  subst hq hs
  obtain ⟨T', h', a', b', c', t⟩ := putFN X hx hZ hown w via eT F E L wi hty hn hf (g := mkF m pc Ls (v :: .ref a :: rest)) rfl rfl hd
  exact own_Fin.step t (k T' h' a' b' c')
theorem own_pR (X : Stand p l e R s m args below meth c T locs cells slots) (hx : p.tables.exec = Jvm.exec) (hZ : Z.Warmed39 s.vm) {own O n d C : String} {index kk : Nat} {ty : FieldType} (hown : s.vm.findClass own = some m.cls) (w : (Cond.fieldRef own index O n d).before a0 Z = true) (eT : T.heap = h) {a : Addr} {v old : Value} (F : Fld Z h a O n d old) (E : Exa Z h a C) (L : (Cond.lays C O n d).before a0 Z = true) (wi : (Cond.instantiable C kk).before a0 Z = true) (hty : parseFieldDescriptor d = some ty) (hn : narrow ty v = v) (hf : fits ty v = true) {rest : List Value} (q : Nat) (hs : st = v :: .ref a :: rest) (hd : decode c.code pc = .ok (.putfield index, 3)) (hq : pc + 3 = q)
    (k : ∀ T' h', Stand p l e R s m args below meth c T' (locs ++ [⟨a, slotOf Z O n d⟩]) cells slots → T'.heap = h' → Wr h h' a (slotOf Z O n d) v → own_Fin p.tables e below Post (T'.setTop (mkF m q Ls rest))) : own_Fin p.tables e below Post (T.setTop (mkF m pc Ls st)) := by
  subst hq hs
  obtain ⟨T', h', a', b', c', t⟩ := own_putFR X hx hZ hown w eT F E L wi hty hn hf (g := mkF m pc Ls (v :: .ref a :: rest)) rfl rfl hd
  exact own_Fin.step t (k T' h' a' b' c')
theorem own_cS (X : Stand p l e R s m args below meth c T locs cells slots) (hx : p.tables.exec = Jvm.exec) (hZ : Z.Warmed39 s.vm) {own : String} {index : Nat} {y : MethodName} {bytes : ByteArray} {maxL : Nat} {ret : Option FieldType} {rm : Room} {Q : Option Value → Heap → List Loc → Prop} {as' : Array Value} (hown : s.vm.findClass own = some m.cls) (w1 : (Cond.methodLink own index y).before a0 Z = true) (w2 : (Cond.static y).before a0 Z = true) (hy : y.cls ≠ "java/lang/invoke/MethodHandle" ∧ y.cls ≠ "java/lang/invoke/VarHandle")
    (wc : (Cond.code y bytes maxL ret).before a0 Z = true) (wz : (Cond.initialized y.cls).before a0 Z = true) (hM : MetFree l y (head1 [Cond.code y bytes maxL ret] rm) (fun as U => as = as' ∧ Z.Warmed39 U.vm ∧ U.heap = h) (fun _ _ _ _ _ => True) (fun _ U o U' => ∃ v L, o = .returned v ∧ Q v U'.heap L ∧ FrameEnd U o U' L rm.cells rm.slots))
    (eT : T.heap = h) (argsL rest : List Value) (q W : Nat) (hd : decode c.code pc = .ok (.invokestatic index, 3)) (hq : pc + 3 = q) (hsz : Ls.size = c.maxLocals) (has : argsL.toArray = as') (hst : st = argsL.reverse ++ rest) (hlen : ∀ sig, parseMethodDescriptor y.desc = some sig → argsL.length = sig.parameters.length) (hW : 2 * 0 + (rest.map fun v => v.category).sum = W) (hr : (rm.frames + 1 ≤ R.frames ∧ W + (maxL + 11) + rm.locals ≤ R.locals) ∧ cells + rm.cells ≤ R.cells ∧ slots + rm.slots ≤ R.slots)
    (k : ∀ v T' L, Stand p l e R s m args below meth c T' (locs ++ L) (cells + rm.cells) (slots + rm.slots) → Q v T'.heap L → own_Fin p.tables e below Post (T'.setTop (mkF m q Ls (v.toList ++ rest)))) : own_Fin p.tables e below Post (T.setTop (mkF m pc Ls st)) := by
  subst hst hq has
  obtain ⟨v, vm1, ⟨T', L', k', n'⟩, -, X', ⟨Lc, hQ, l', y', z'⟩, t'⟩ := Jvm.LawKit.callS X hx (y := y) hown (mvT hZ w1) (mvT hZ w2) (mvT hZ wz) (mvT hZ wc) hy (backOf (W := W) hM hZ wc wz hr.1.1 hr.1.2) (g := mkF m pc Ls (argsL.reverse ++ rest)) rfl hsz (argsL := argsL) (rest := rest) hlen rfl (Nat.le_of_eq hW) hd (fun _ _ => ⟨rfl, eT, hr.2.1, hr.2.2⟩)
  dsimp only [Pt.U, Pt.locs, Pt.cells, Pt.slots] at X' l' y' z' t' hQ
  subst l' y' z'
  exact own_Fin.step t' (k v T' Lc X' hQ)
theorem own_cN (X : Stand p l e R s m args below meth c T locs cells slots) (hx : p.tables.exec = Jvm.exec) (hZ : Z.Warmed39 s.vm) {own : String} {index : Nat} {y : MethodName} {bytes : ByteArray} {maxL : Nat} {rm : Room} {Q : Option Value → Heap → List Loc → Prop} {as' : Array Value} {a : Addr} (hown : s.vm.findClass own = some m.cls) (hy1 : y.name = "<init>") (w1 : (Cond.methodLink own index y).before a0 Z = true) (w3 : (Cond.instanceMethod y).before a0 Z = true) (hy : y.cls ≠ "java/lang/invoke/MethodHandle" ∧ y.cls ≠ "java/lang/invoke/VarHandle")
    (wc : (Cond.code y bytes maxL none).before a0 Z = true) (wz : (Cond.initialized y.cls).before a0 Z = true) (hM : MetFree l y (head1 [Cond.code y bytes maxL none] rm) (fun as U => as = as' ∧ Z.Warmed39 U.vm ∧ U.heap = h) (fun _ _ _ _ _ => True) (fun _ U o U' => ∃ v L, o = .returned v ∧ Q v U'.heap L ∧ FrameEnd U o U' L rm.cells rm.slots))
    (eT : T.heap = h) (argsL rest : List Value) (q W : Nat) (hd : decode c.code pc = .ok (.invokespecial index, 3)) (hq : pc + 3 = q) (hsz : Ls.size = c.maxLocals) (has : (.ref a :: argsL).toArray = as') (hst : st = argsL.reverse ++ .ref a :: rest) (hlen : ∀ sig, parseMethodDescriptor y.desc = some sig → argsL.length = sig.parameters.length) (hW : 2 * 0 + (rest.map fun v => v.category).sum = W) (hr : (rm.frames + 1 ≤ R.frames ∧ W + (maxL + 11) + rm.locals ≤ R.locals) ∧ cells + rm.cells ≤ R.cells ∧ slots + rm.slots ≤ R.slots)
    (k : ∀ v T' L, Stand p l e R s m args below meth c T' (locs ++ L) (cells + rm.cells) (slots + rm.slots) → Q v T'.heap L → own_Fin p.tables e below Post (T'.setTop (mkF m q Ls (v.toList ++ rest)))) : own_Fin p.tables e below Post (T.setTop (mkF m pc Ls st)) := by
  subst hst hq has
  obtain ⟨v, vm1, ⟨T', L', k', n'⟩, -, X', ⟨Lc, hQ, l', y', z'⟩, t'⟩ := X.specialBack hx (y := y) hy1 hown (mvT hZ w1) (mvT hZ w3) (mvT hZ wc) hy (backOf (W := W) hM hZ wc wz hr.1.1 hr.1.2) (g := mkF m pc Ls (argsL.reverse ++ .ref a :: rest)) rfl hsz (Steps.refl _) (a := a) (argsL := argsL) (rest := rest) hlen rfl (Nat.le_of_eq hW) hd (fun _ _ => ⟨rfl, eT, hr.2.1, hr.2.2⟩)
  dsimp only [Pt.U, Pt.locs, Pt.cells, Pt.slots] at X' l' y' z' t' hQ
  subst l' y' z'
  exact own_Fin.trans t' (k v T' Lc X' hQ)
theorem own_cV (X : Stand p l e R s m args below meth c T locs cells slots) (hx : p.tables.exec = Jvm.exec) (hZ : Z.Warmed39 s.vm) {own : String} {C : String} {index : Nat} {x y : MethodName} {bytes : ByteArray} {maxL : Nat} {ret : Option FieldType} {rm : Room} {Q : Option Value → Heap → List Loc → Prop} {as' : Array Value} {a : Addr} (hown : s.vm.findClass own = some m.cls) (w1 : (Cond.methodLink own index x).before a0 Z = true) (w2 : (Cond.declares x).before a0 Z = true) (nf : NotFace s x) (w4 : (Cond.selects C x y).before a0 Z = true) (w3 : (Cond.instanceMethod y).before a0 Z = true) (hy : x.cls ≠ "java/lang/invoke/MethodHandle" ∧ x.cls ≠ "java/lang/invoke/VarHandle")
    (wc : (Cond.code y bytes maxL ret).before a0 Z = true) (wz : (Cond.initialized y.cls).before a0 Z = true) (hM : MetFree l y (head1 [Cond.code y bytes maxL ret] rm) (fun as U => as = as' ∧ Z.Warmed39 U.vm ∧ U.heap = h) (fun _ _ _ _ _ => True) (fun _ U o U' => ∃ v L, o = .returned v ∧ Q v U'.heap L ∧ FrameEnd U o U' L rm.cells rm.slots))
    (eT : T.heap = h) (E : Exa Z h a C) (argsL rest : List Value) (q W : Nat) (hd : decode c.code pc = .ok (.invokevirtual index, 3)) (hq : pc + 3 = q) (hsz : Ls.size = c.maxLocals) (has : (.ref a :: argsL).toArray = as') (hst : st = argsL.reverse ++ .ref a :: rest) (hlen : ∀ sig, parseMethodDescriptor x.desc = some sig → argsL.length = sig.parameters.length) (hW : 2 * 0 + (rest.map fun v => v.category).sum = W) (hr : (rm.frames + 1 ≤ R.frames ∧ W + (maxL + 11) + rm.locals ≤ R.locals) ∧ cells + rm.cells ≤ R.cells ∧ slots + rm.slots ≤ R.slots)
    (k : ∀ v T' L, Stand p l e R s m args below meth c T' (locs ++ L) (cells + rm.cells) (slots + rm.slots) → Q v T'.heap L → own_Fin p.tables e below Post (T'.setTop (mkF m q Ls (v.toList ++ rest)))) : own_Fin p.tables e below Post (T.setTop (mkF m pc Ls st)) := by
  subst hst hq has
  obtain ⟨cB, kB, q1, q2, q3⟩ := isOf hZ eT E
  obtain ⟨v, vm1, ⟨T', L', k', n'⟩, -, X', ⟨Lc, hQ, l', y', z'⟩, t'⟩ := X.virtualBack hx (y := x) (z := y) hown (mvT hZ w1) (mvT hZ w2) nf (mvT hZ w4) (mvT hZ w3) hy (backOf (W := W) hM hZ wc wz hr.1.1 hr.1.2) q1 q3 (g := mkF m pc Ls (argsL.reverse ++ .ref a :: rest)) rfl hsz (Steps.refl _) (argsL := argsL) (rest := rest) hlen rfl (Nat.le_of_eq hW) hd (fun _ _ => ⟨rfl, eT, hr.2.1, hr.2.2⟩)
  dsimp only [Pt.U, Pt.locs, Pt.cells, Pt.slots] at X' l' y' z' t' hQ
  subst l' y' z'
  exact own_Fin.trans t' (k v T' Lc X' hQ)
theorem own_cI (X : Stand p l e R s m args below meth c T locs cells slots) (hx : p.tables.exec = Jvm.exec) (hZ : Z.Warmed39 s.vm) {own : String} {C : String} {index count : Nat} {xi y : MethodName} {bytes : ByteArray} {maxL : Nat} {ret : Option FieldType} {rm : Room} {Q : Option Value → Heap → List Loc → Prop} {as' : Array Value} {a : Addr} (hown : s.vm.findClass own = some m.cls) (w1 : (Cond.methodLink own index xi).before a0 Z = true) (w2 : (Cond.declares xi).before a0 Z = true) (w5 : (Cond.interfaceMethod xi.cls xi.cls xi.name xi.desc).before args s = true) (w4 : (Cond.selects C xi y).before a0 Z = true) (w3 : (Cond.instanceMethod y).before a0 Z = true) (w6 : (Cond.publicMethod y).before a0 Z = true) (w7 : (Cond.unhidden C xi.name xi.desc).before a0 Z = true) (w8 : (Cond.castable C xi.cls).before a0 Z = true) (hy : xi.cls ≠ "java/lang/invoke/MethodHandle" ∧ xi.cls ≠ "java/lang/invoke/VarHandle")
    (wc : (Cond.code y bytes maxL ret).before a0 Z = true) (wz : (Cond.initialized y.cls).before a0 Z = true) (hM : MetFree l y (head1 [Cond.code y bytes maxL ret] rm) (fun as U => as = as' ∧ Z.Warmed39 U.vm ∧ U.heap = h) (fun _ _ _ _ _ => True) (fun _ U o U' => ∃ v L, o = .returned v ∧ Q v U'.heap L ∧ FrameEnd U o U' L rm.cells rm.slots))
    (eT : T.heap = h) (E : Exa Z h a C) (argsL rest : List Value) (q W : Nat) (hd : decode c.code pc = .ok (.invokeinterface index count, 5)) (hq : pc + 5 = q) (hsz : Ls.size = c.maxLocals) (has : (.ref a :: argsL).toArray = as') (hst : st = argsL.reverse ++ .ref a :: rest) (hlen : ∀ sig, parseMethodDescriptor xi.desc = some sig → argsL.length = sig.parameters.length) (hW : 2 * 0 + (rest.map fun v => v.category).sum = W) (hr : (rm.frames + 1 ≤ R.frames ∧ W + (maxL + 11) + rm.locals ≤ R.locals) ∧ cells + rm.cells ≤ R.cells ∧ slots + rm.slots ≤ R.slots)
    (k : ∀ v T' L, Stand p l e R s m args below meth c T' (locs ++ L) (cells + rm.cells) (slots + rm.slots) → Q v T'.heap L → own_Fin p.tables e below Post (T'.setTop (mkF m q Ls (v.toList ++ rest)))) : own_Fin p.tables e below Post (T.setTop (mkF m pc Ls st)) := by
  subst hst hq has
  obtain ⟨cB, kB, q1, q2, q3⟩ := isOf hZ eT E
  obtain ⟨v, vm1, ⟨T', L', k', n'⟩, -, X', ⟨Lc, hQ, l', y', z'⟩, t'⟩ := X.interfaceBack hx (xi := xi) (y := y) hown (mvT hZ w1) (mvT hZ w2) w5 (mvT hZ w4) (mvT hZ w3) (mvT hZ w6) (mvT hZ w7) (mvT hZ w8) hy (backOf (W := W) hM hZ wc wz hr.1.1 hr.1.2) q1 q2 q3 (g := mkF m pc Ls (argsL.reverse ++ .ref a :: rest)) rfl hsz (Steps.refl _) (argsL := argsL) (rest := rest) hlen rfl (Nat.le_of_eq hW) hd (fun _ _ => ⟨rfl, eT, hr.2.1, hr.2.2⟩)
  dsimp only [Pt.U, Pt.locs, Pt.cells, Pt.slots] at X' l' y' z' t' hQ
  subst l' y' z'
  exact own_Fin.trans t' (k v T' Lc X' hQ)
theorem own_cG (X : Stand p l e R s m args below meth c T locs cells slots) (hx : p.tables.exec = Jvm.exec) (hZ : Z.Warmed39 s.vm) {own : String} {C D : String} {index : Nat} {y : MethodName} {bytes : ByteArray} {maxL : Nat} {ret : Option FieldType} {rm : Room} {Q : Option Value → Heap → List Loc → Prop} {as' : Array Value} {a : Addr} (hown : s.vm.findClass own = some m.cls) (w1 : (Cond.methodLink own index y).before a0 Z = true) (w3 : (Cond.instanceMethod y).before a0 Z = true) (hsel : (Cond.selects D y y).before args s = true) (w6 : (Cond.privateMethod y).before a0 Z = true) (hy : y.cls ≠ "java/lang/invoke/MethodHandle" ∧ y.cls ≠ "java/lang/invoke/VarHandle")
    (wc : (Cond.code y bytes maxL ret).before a0 Z = true) (wz : (Cond.initialized y.cls).before a0 Z = true) (hM : MetFree l y (head1 [Cond.code y bytes maxL ret] rm) (fun as U => as = as' ∧ Z.Warmed39 U.vm ∧ U.heap = h) (fun _ _ _ _ _ => True) (fun _ U o U' => ∃ v L, o = .returned v ∧ Q v U'.heap L ∧ FrameEnd U o U' L rm.cells rm.slots))
    (eT : T.heap = h) (E : Exa Z h a C) (argsL rest : List Value) (q W : Nat) (hd : decode c.code pc = .ok (.invokevirtual index, 3)) (hq : pc + 3 = q) (hsz : Ls.size = c.maxLocals) (has : (.ref a :: argsL).toArray = as') (hst : st = argsL.reverse ++ .ref a :: rest) (hlen : ∀ sig, parseMethodDescriptor y.desc = some sig → argsL.length = sig.parameters.length) (hW : 2 * 0 + (rest.map fun v => v.category).sum = W) (hr : (rm.frames + 1 ≤ R.frames ∧ W + (maxL + 11) + rm.locals ≤ R.locals) ∧ cells + rm.cells ≤ R.cells ∧ slots + rm.slots ≤ R.slots)
    (k : ∀ v T' L, Stand p l e R s m args below meth c T' (locs ++ L) (cells + rm.cells) (slots + rm.slots) → Q v T'.heap L → own_Fin p.tables e below Post (T'.setTop (mkF m q Ls (v.toList ++ rest)))) : own_Fin p.tables e below Post (T.setTop (mkF m pc Ls st)) := by
  subst hst hq has
  obtain ⟨cq, q1, q2⟩ := E.cell
  obtain ⟨v, vm1, ⟨T', L', k', n'⟩, -, X', ⟨Lc, hQ, l', y', z'⟩, t'⟩ := own_privG X hx (y := y) hown (mvT hZ w1) (mvT hZ w3) hsel (Cond.privateMethod_at (mvP hZ w6 (args := #[]))) (own_sigC (args := args) (mvT hZ wc)) hy (backOf (W := W) hM hZ wc wz hr.1.1 hr.1.2) (g := mkF m pc Ls (argsL.reverse ++ .ref a :: rest)) rfl hsz (Steps.refl _) (a := a) (by rw [eT]; exact q1) q2 (argsL := argsL) (rest := rest) hlen rfl (Nat.le_of_eq hW) hd (fun _ _ => ⟨rfl, eT, hr.2.1, hr.2.2⟩)
  dsimp only [Pt.U, Pt.locs, Pt.cells, Pt.slots] at X' l' y' z' t' hQ
  subst l' y' z'
  exact own_Fin.trans t' (k v T' Lc X' hQ)
theorem own_cY (X : Stand p l e R s m args below meth c T locs cells slots) (hx : p.tables.exec = Jvm.exec) (hZ : Z.Warmed39 s.vm) {own : String} {C D : String} {index : Nat} {y : MethodName} {bytes : ByteArray} {maxL : Nat} {ret : Option FieldType} {rm : Room} {Q : Option Value → Heap → List Loc → Prop} {as' : Array Value} {a : Addr} (hown : s.vm.findClass own = some m.cls) (w1 : (Cond.methodLink own index y).before a0 Z = true) (w3 : (Cond.instanceMethod y).before a0 Z = true) (hsel : (Cond.selects D y y).before args s = true) (w6 : (Cond.privateMethod y).before a0 Z = true) (hy : y.cls ≠ "java/lang/invoke/MethodHandle" ∧ y.cls ≠ "java/lang/invoke/VarHandle")
    (wc : (Cond.codeSync y bytes maxL ret).before a0 Z = true) (wz : (Cond.initialized y.cls).before a0 Z = true) (hM : MetFree l y (head1 [Cond.codeSync y bytes maxL ret, Cond.instanceMethod y] rm) (fun as U => as = as' ∧ Z.Warmed39 U.vm ∧ U.heap = h ∧ ∃ cell : Cell, h[a]? = some cell ∧ cell.enterable U.cur) (fun _ _ _ _ _ => True) (fun _ U o U' => ∃ v L, o = .returned v ∧ Q v U'.heap L ∧ FrameEnd U o U' L rm.cells rm.slots))
    (eT : T.heap = h) (E : Exa Z h a C) (N : Unt h a) (argsL rest : List Value) (q W : Nat) (hd : decode c.code pc = .ok (.invokevirtual index, 3)) (hq : pc + 3 = q) (hsz : Ls.size = c.maxLocals) (has : (.ref a :: argsL).toArray = as') (hst : st = argsL.reverse ++ .ref a :: rest) (hlen : ∀ sig, parseMethodDescriptor y.desc = some sig → argsL.length = sig.parameters.length) (hW : 2 * 0 + (rest.map fun v => v.category).sum = W) (hr : (rm.frames + 1 ≤ R.frames ∧ W + (maxL + 11) + rm.locals ≤ R.locals) ∧ cells + rm.cells ≤ R.cells ∧ slots + rm.slots ≤ R.slots)
    (k : ∀ v T' L, Stand p l e R s m args below meth c T' (locs ++ L) (cells + rm.cells) (slots + rm.slots) → Q v T'.heap L → own_Fin p.tables e below Post (T'.setTop (mkF m q Ls (v.toList ++ rest)))) : own_Fin p.tables e below Post (T.setTop (mkF m pc Ls st)) := by
  subst hst hq has
  obtain ⟨cq, q1, q2⟩ := E.cell
  obtain ⟨v, vm1, ⟨T', L', k', n'⟩, -, X', ⟨Lc, hQ, l', y', z'⟩, t'⟩ := own_privG X hx (y := y) hown (mvT hZ w1) (mvT hZ w3) hsel (Cond.privateMethod_at (mvP hZ w6 (args := #[]))) (own_sigS (args := args) (mvT hZ wc)) hy (own_backS (W := W) hM hZ wc w3 wz N hr.1.1 hr.1.2) (g := mkF m pc Ls (argsL.reverse ++ .ref a :: rest)) rfl hsz (Steps.refl _) (a := a) (by rw [eT]; exact q1) q2 (argsL := argsL) (rest := rest) hlen rfl (Nat.le_of_eq hW) hd (fun _ _ => ⟨rfl, eT, hr.2.1, hr.2.2⟩)
  dsimp only [Pt.U, Pt.locs, Pt.cells, Pt.slots] at X' l' y' z' t' hQ
  subst l' y' z'
  exact own_Fin.trans t' (k v T' Lc X' hQ)
theorem own_cU (X : Stand p l e R s m args below meth c T locs cells slots) (hx : p.tables.exec = Jvm.exec) (hZ : Z.Warmed39 s.vm) {own : String} {C : String} {index : Nat} {y : MethodName} {bytes : ByteArray} {maxL : Nat} {ret : Option FieldType} {rm : Room} {Q : Option Value → Heap → List Loc → Prop} {as' : Array Value} {a : Addr} (hown : s.vm.findClass own = some m.cls) (w1 : (Cond.methodLink own index y).before a0 Z = true) (w2 : (Cond.sameMethod y.cls y.cls y.name y.desc).before a0 Z = true) (w3 : (Cond.instanceMethod y).before a0 Z = true) (w4 : (Cond.superclass own y.cls).before a0 Z = true) (hn : y.name ≠ "<init>") 
    (wc : (Cond.code y bytes maxL ret).before a0 Z = true) (wz : (Cond.initialized y.cls).before a0 Z = true) (hM : MetFree l y (head1 [Cond.code y bytes maxL ret] rm) (fun as U => as = as' ∧ Z.Warmed39 U.vm ∧ U.heap = h) (fun _ _ _ _ _ => True) (fun _ U o U' => ∃ v L, o = .returned v ∧ Q v U'.heap L ∧ FrameEnd U o U' L rm.cells rm.slots))
    (eT : T.heap = h) (E : Exa Z h a C) (argsL rest : List Value) (q W : Nat) (hd : decode c.code pc = .ok (.invokespecial index, 3)) (hq : pc + 3 = q) (hsz : Ls.size = c.maxLocals) (has : (.ref a :: argsL).toArray = as') (hst : st = argsL.reverse ++ .ref a :: rest) (hlen : ∀ sig, parseMethodDescriptor y.desc = some sig → argsL.length = sig.parameters.length) (hW : 2 * 0 + (rest.map fun v => v.category).sum = W) (hr : (rm.frames + 1 ≤ R.frames ∧ W + (maxL + 11) + rm.locals ≤ R.locals) ∧ cells + rm.cells ≤ R.cells ∧ slots + rm.slots ≤ R.slots)
    (k : ∀ v T' L, Stand p l e R s m args below meth c T' (locs ++ L) (cells + rm.cells) (slots + rm.slots) → Q v T'.heap L → own_Fin p.tables e below Post (T'.setTop (mkF m q Ls (v.toList ++ rest)))) : own_Fin p.tables e below Post (T.setTop (mkF m pc Ls st)) := by
  subst hst hq has
  obtain ⟨v, vm1, ⟨T', L', k', n'⟩, -, X', ⟨Lc, hQ, l', y', z'⟩, t'⟩ := superBack X hx hZ (y := y) hown w1 w2 w3 w4 hn (backOf (W := W) hM hZ wc wz hr.1.1 hr.1.2) eT (Ins.self E) (g := mkF m pc Ls (argsL.reverse ++ .ref a :: rest)) rfl hsz wc (argsL := argsL) (rest := rest) hlen rfl (Nat.le_of_eq hW) hd (fun _ _ => ⟨rfl, eT, hr.2.1, hr.2.2⟩)
  dsimp only [Pt.U, Pt.locs, Pt.cells, Pt.slots] at X' l' y' z' t' hQ
  subst l' y' z'
  exact own_Fin.trans t' (k v T' Lc X' hQ)
theorem own_cR (X : Stand p l e R s m args below meth c T locs cells slots) (hx : p.tables.exec = Jvm.exec) (hZ : Z.Warmed39 s.vm) {own : String} {C : String} {index kk : Nat} {y : MethodName} {bytes : ByteArray} {maxL : Nat} {ret : Option FieldType} {rm : Room} {Q : Option Value → Heap → List Loc → Prop} {as' : Array Value} {a : Addr} (hown : s.vm.findClass own = some m.cls) (w1 : (Cond.methodRef own index y).before a0 Z = true) (w3 : (Cond.instanceMethod y).before a0 Z = true) (w6 : (Cond.privateMethod y).before a0 Z = true) (w7 : (Cond.instantiable y.cls kk).before a0 Z = true) (hy : y.cls ≠ "java/lang/invoke/MethodHandle" ∧ y.cls ≠ "java/lang/invoke/VarHandle")
    (wc : (Cond.code y bytes maxL ret).before a0 Z = true) (wz : (Cond.initialized y.cls).before a0 Z = true) (hM : MetFree l y (head1 [Cond.code y bytes maxL ret] rm) (fun as U => as = as' ∧ Z.Warmed39 U.vm ∧ U.heap = h) (fun _ _ _ _ _ => True) (fun _ U o U' => ∃ v L, o = .returned v ∧ Q v U'.heap L ∧ FrameEnd U o U' L rm.cells rm.slots))
    (eT : T.heap = h) (E : Exa Z h a C) (argsL rest : List Value) (q W : Nat) (hd : decode c.code pc = .ok (.invokevirtual index, 3)) (hq : pc + 3 = q) (hsz : Ls.size = c.maxLocals) (has : (.ref a :: argsL).toArray = as') (hst : st = argsL.reverse ++ .ref a :: rest) (hlen : ∀ sig, parseMethodDescriptor y.desc = some sig → argsL.length = sig.parameters.length) (hW : 2 * 0 + (rest.map fun v => v.category).sum = W) (hr : (rm.frames + 1 ≤ R.frames ∧ W + (maxL + 11) + rm.locals ≤ R.locals) ∧ cells + rm.cells ≤ R.cells ∧ slots + rm.slots ≤ R.slots)
    (k : ∀ v T' L, Stand p l e R s m args below meth c T' (locs ++ L) (cells + rm.cells) (slots + rm.slots) → Q v T'.heap L → own_Fin p.tables e below Post (T'.setTop (mkF m q Ls (v.toList ++ rest)))) : own_Fin p.tables e below Post (T.setTop (mkF m pc Ls st)) := by
  subst hst hq has
  obtain ⟨cq, q1, q2⟩ := E.cell
  obtain ⟨v, vm1, ⟨T', L', k', n'⟩, -, X', ⟨Lc, hQ, l', y', z'⟩, t'⟩ := own_privR X hx hZ (y := y) hown w1 w3 w6 w7 hy (backOf (W := W) hM hZ wc wz hr.1.1 hr.1.2) (g := mkF m pc Ls (argsL.reverse ++ .ref a :: rest)) rfl hsz (Steps.refl _) (a := a) (by rw [eT]; exact q1) q2 (argsL := argsL) (rest := rest) hlen rfl (Nat.le_of_eq hW) hd wc (fun _ _ => ⟨rfl, eT, hr.2.1, hr.2.2⟩)
  dsimp only [Pt.U, Pt.locs, Pt.cells, Pt.slots] at X' l' y' z' t' hQ
  subst l' y' z'
  exact own_Fin.trans t' (k v T' Lc X' hQ)
theorem own_cRi (X : Stand p l e R s m args below meth c T locs cells slots) (hx : p.tables.exec = Jvm.exec) (hZ : Z.Warmed39 s.vm) {own : String} {index : Nat} {y : MethodName} {bytes : ByteArray} {maxL : Nat} {ret : Option FieldType} {rm : Room} {Q : Option Value → Heap → List Loc → Prop} {as' : Array Value} {a : Addr} (hown : s.vm.findClass own = some m.cls) (hy1 : y.name = "<init>") (w1 : (Cond.methodRef own index y).before a0 Z = true) (w3 : (Cond.instanceMethod y).before a0 Z = true) (hy : y.cls ≠ "java/lang/invoke/MethodHandle" ∧ y.cls ≠ "java/lang/invoke/VarHandle")
    (wc : (Cond.code y bytes maxL ret).before a0 Z = true) (wz : (Cond.initialized y.cls).before a0 Z = true) (hM : MetFree l y (head1 [Cond.code y bytes maxL ret] rm) (fun as U => as = as' ∧ Z.Warmed39 U.vm ∧ U.heap = h) (fun _ _ _ _ _ => True) (fun _ U o U' => ∃ v L, o = .returned v ∧ Q v U'.heap L ∧ FrameEnd U o U' L rm.cells rm.slots))
    (eT : T.heap = h) (argsL rest : List Value) (q W : Nat) (hd : decode c.code pc = .ok (.invokespecial index, 3)) (hq : pc + 3 = q) (hsz : Ls.size = c.maxLocals) (has : (.ref a :: argsL).toArray = as') (hst : st = argsL.reverse ++ .ref a :: rest) (hlen : ∀ sig, parseMethodDescriptor y.desc = some sig → argsL.length = sig.parameters.length) (hW : 2 * 0 + (rest.map fun v => v.category).sum = W) (hr : (rm.frames + 1 ≤ R.frames ∧ W + (maxL + 11) + rm.locals ≤ R.locals) ∧ cells + rm.cells ≤ R.cells ∧ slots + rm.slots ≤ R.slots)
    (k : ∀ v T' L, Stand p l e R s m args below meth c T' (locs ++ L) (cells + rm.cells) (slots + rm.slots) → Q v T'.heap L → own_Fin p.tables e below Post (T'.setTop (mkF m q Ls (v.toList ++ rest)))) : own_Fin p.tables e below Post (T.setTop (mkF m pc Ls st)) := by
  subst hst hq has
  obtain ⟨v, vm1, ⟨T', L', k', n'⟩, -, X', ⟨Lc, hQ, l', y', z'⟩, t'⟩ := own_initR X hx hZ (y := y) hy1 hown w1 w3 hy (backOf (W := W) hM hZ wc wz hr.1.1 hr.1.2) (g := mkF m pc Ls (argsL.reverse ++ .ref a :: rest)) rfl hsz (Steps.refl _) (a := a) (argsL := argsL) (rest := rest) hlen rfl (Nat.le_of_eq hW) hd wc (fun _ _ => ⟨rfl, eT, hr.2.1, hr.2.2⟩)
  dsimp only [Pt.U, Pt.locs, Pt.cells, Pt.slots] at X' l' y' z' t' hQ
  subst l' y' z'
  exact own_Fin.trans t' (k v T' Lc X' hQ)
theorem own_nS {a x : Addr} {xs : List Addr} (q : @Ne Nat a x) (k : a ∉ xs) : a ∉ x :: xs := ninS q k
theorem own_aL (X : Stand p l e R s m args below meth c T locs cells slots) (hx : p.tables.exec = Jvm.exec) (hZ : Z.Warmed39 s.vm) (eT : T.heap = h) {a : Addr} {kc : ClassId} {ty : FieldType} {z : Int32} {vs : List Value} {dv : Value} (F : Arv Z h a kc ty z vs dv) {rest : List Value} (q : Nat) (hs : st = .ref a :: rest) (hd : decode c.code pc = .ok (.arraylength, 1)) (hq : pc + 1 = q) (k : own_Fin p.tables e below Post (T.setTop (mkF m q Ls (.int z :: rest)))) : own_Fin p.tables e below Post (T.setTop (mkF m pc Ls st)) := by
  subst hq hs
  obtain ⟨cl, Ar, q1, S, N, Hs, G⟩ := F
  refine own_Fin.step (X.arraylength hx (by rw [eT]; exact Ar.1) (State.isArrayOf_alike hZ.alike Ar.2.1) (g := mkF m pc Ls (.ref a :: rest)) rfl rfl hd) ?_
  rw [len_of S N]
  exact k
theorem own_bL (X : Stand p l e R s m args below meth c T locs cells slots) (hx : p.tables.exec = Jvm.exec) (hZ : Z.Warmed39 s.vm) (eT : T.heap = h) {a : Addr} {kc : ClassId} {z : Int32} {vs : List Value} {dv : Value} (F : Arv Z h a kc .byte z vs dv) {j x : Int32} {rest : List Value} (q : Nat) (hs : st = .int j :: .ref a :: rest) (hd : decode c.code pc = .ok (.baload, 1)) (hq : pc + 1 = q) (hin : ¬ j < 0 ∧ j < z) (hv : vs.getD j.toNatClampNeg dv = .int x) (k : own_Fin p.tables e below Post (T.setTop (mkF m q Ls (.int x :: rest)))) : own_Fin p.tables e below Post (T.setTop (mkF m pc Ls st)) := by
  subst hq hs
  obtain ⟨cl, Ar, q1, S, N, Hs, G⟩ := F
  have h1 := inb_of S hin
  exact own_Fin.step (X.baloadBytes hx (j := j) (v := .int x) (by rw [eT]; exact Ar.1) (State.isArrayOf_alike hZ.alike Ar.2.1) Ar.2.2 h1 (Hs.at h1 hv) (g := mkF m pc Ls (.int j :: .ref a :: rest)) rfl rfl hd) k
theorem own_ne {a b : Addr} (q : @Ne Nat a b) : a ≠ b := q
end Cps
end Jvm.RoadKit
namespace Jvm.RoadKit
open Sem ClassFile Op Lib Jvm.Stand Jvm.Free Jvm.LawKit
section Run
variable {p : Program} {l : Launch} {e : Env} {R : Room} {s : State} {m : MethodId} {args : Array Value} {below : List Frame} {meth : Method} {c : Code} {T : State} {locs : List Loc} {cells slots : Nat} {Post : Outcome → State → Prop} {pc q : Nat} {Ls Ls' : Array Slot} {st st' : List Value}
def own_x_iload (k : Nat) (Ls : Array Slot) (st : List Value) : Option (Array Slot × List Value) := match Ls[k]? with | some (.val (.int v)) => (some (Ls, .int v :: st)) | _ => none
theorem own_x_iload_s (X : Stand p l e R s m args below meth c T locs cells slots) (hx : p.tables.exec = Jvm.exec) {k : Nat} (hd : decode c.code pc = .ok (.iload k, 2)) (h : own_x_iload k Ls st = some (Ls', st')) (t : State) (r : Steps p.tables e below (T.setTop (mkF m (pc + 2) Ls' st')) t) : Steps p.tables e below (T.setTop (mkF m pc Ls st)) t := by
  unfold own_x_iload at h
  split at h
  · rename_i hv
    cases h
    exact XS.iload X.here hx rfl hd hv r
  · cases h
def own_x_iload_n (k : Fin 4) (Ls : Array Slot) (st : List Value) : Option (Array Slot × List Value) := match Ls[k.val]? with | some (.val (.int v)) => (some (Ls, .int v :: st)) | _ => none
theorem own_x_iload_n_s (X : Stand p l e R s m args below meth c T locs cells slots) (hx : p.tables.exec = Jvm.exec) {k : Fin 4} (hd : decode c.code pc = .ok (.iload_n k, 1)) (h : own_x_iload_n k Ls st = some (Ls', st')) (t : State) (r : Steps p.tables e below (T.setTop (mkF m (pc + 1) Ls' st')) t) : Steps p.tables e below (T.setTop (mkF m pc Ls st)) t := by
  unfold own_x_iload_n at h
  split at h
  · rename_i hv
    cases h
    exact XS.iloadN X.here hx rfl hd hv r
  · cases h
def own_x_lload (k : Nat) (Ls : Array Slot) (st : List Value) : Option (Array Slot × List Value) := match Ls[k]? with | some (.val (.long v)) => (some (Ls, .long v :: st)) | _ => none
theorem own_x_lload_s (X : Stand p l e R s m args below meth c T locs cells slots) (hx : p.tables.exec = Jvm.exec) {k : Nat} (hd : decode c.code pc = .ok (.lload k, 2)) (h : own_x_lload k Ls st = some (Ls', st')) (t : State) (r : Steps p.tables e below (T.setTop (mkF m (pc + 2) Ls' st')) t) : Steps p.tables e below (T.setTop (mkF m pc Ls st)) t := by
  unfold own_x_lload at h
  split at h
  · rename_i hv
    cases h
    exact XS.lload X.here hx rfl hd hv r
  · cases h
def own_x_lload_n (k : Fin 4) (Ls : Array Slot) (st : List Value) : Option (Array Slot × List Value) := match Ls[k.val]? with | some (.val (.long v)) => (some (Ls, .long v :: st)) | _ => none
theorem own_x_lload_n_s (X : Stand p l e R s m args below meth c T locs cells slots) (hx : p.tables.exec = Jvm.exec) {k : Fin 4} (hd : decode c.code pc = .ok (.lload_n k, 1)) (h : own_x_lload_n k Ls st = some (Ls', st')) (t : State) (r : Steps p.tables e below (T.setTop (mkF m (pc + 1) Ls' st')) t) : Steps p.tables e below (T.setTop (mkF m pc Ls st)) t := by
  unfold own_x_lload_n at h
  split at h
  · rename_i hv
    cases h
    exact XS.lloadN X.here hx rfl hd hv r
  · cases h
def own_x_aload (k : Nat) (Ls : Array Slot) (st : List Value) : Option (Array Slot × List Value) := match Ls[k]? with | some (.val (.ref v)) => (some (Ls, .ref v :: st)) | some (.val .null) => (some (Ls, .null :: st)) | _ => none
theorem own_x_aload_s (X : Stand p l e R s m args below meth c T locs cells slots) (hx : p.tables.exec = Jvm.exec) {k : Nat} (hd : decode c.code pc = .ok (.aload k, 2)) (h : own_x_aload k Ls st = some (Ls', st')) (t : State) (r : Steps p.tables e below (T.setTop (mkF m (pc + 2) Ls' st')) t) : Steps p.tables e below (T.setTop (mkF m pc Ls st)) t := by
  unfold own_x_aload at h
  split at h
  · rename_i hv
    cases h
    exact XS.aload X.here hx rfl hd hv rfl r
  · rename_i hv
    cases h
    exact XS.aload X.here hx rfl hd hv rfl r
  · cases h
def own_x_aload_n (k : Fin 4) (Ls : Array Slot) (st : List Value) : Option (Array Slot × List Value) := match Ls[k.val]? with | some (.val (.ref v)) => (some (Ls, .ref v :: st)) | some (.val .null) => (some (Ls, .null :: st)) | _ => none
theorem own_x_aload_n_s (X : Stand p l e R s m args below meth c T locs cells slots) (hx : p.tables.exec = Jvm.exec) {k : Fin 4} (hd : decode c.code pc = .ok (.aload_n k, 1)) (h : own_x_aload_n k Ls st = some (Ls', st')) (t : State) (r : Steps p.tables e below (T.setTop (mkF m (pc + 1) Ls' st')) t) : Steps p.tables e below (T.setTop (mkF m pc Ls st)) t := by
  unfold own_x_aload_n at h
  split at h
  · rename_i hv
    cases h
    exact XS.aloadN X.here hx rfl hd hv rfl r
  · rename_i hv
    cases h
    exact XS.aloadN X.here hx rfl hd hv rfl r
  · cases h
def own_x_istore (k : Nat) (Ls : Array Slot) (st : List Value) : Option (Array Slot × List Value) := match st with | .int v :: rest => (match storeLocals Ls k (.int v) with | some l' => some (l', rest) | none => none) | _ => none
theorem own_x_istore_s (X : Stand p l e R s m args below meth c T locs cells slots) (hx : p.tables.exec = Jvm.exec) {k : Nat} (hd : decode c.code pc = .ok (.istore k, 2)) (h : own_x_istore k Ls st = some (Ls', st')) (t : State) (r : Steps p.tables e below (T.setTop (mkF m (pc + 2) Ls' st')) t) : Steps p.tables e below (T.setTop (mkF m pc Ls st)) t := by
  unfold own_x_istore at h
  split at h
  · split at h
    · rename_i ho
      cases h
      exact XS.istore X.here hx rfl hd rfl ho r
    · cases h
  · cases h
def own_x_istore_n (k : Fin 4) (Ls : Array Slot) (st : List Value) : Option (Array Slot × List Value) := match st with | .int v :: rest => (match storeLocals Ls k.val (.int v) with | some l' => some (l', rest) | none => none) | _ => none
theorem own_x_istore_n_s (X : Stand p l e R s m args below meth c T locs cells slots) (hx : p.tables.exec = Jvm.exec) {k : Fin 4} (hd : decode c.code pc = .ok (.istore_n k, 1)) (h : own_x_istore_n k Ls st = some (Ls', st')) (t : State) (r : Steps p.tables e below (T.setTop (mkF m (pc + 1) Ls' st')) t) : Steps p.tables e below (T.setTop (mkF m pc Ls st)) t := by
  unfold own_x_istore_n at h
  split at h
  · split at h
    · rename_i ho
      cases h
      exact XS.istoreN X.here hx rfl hd rfl ho r
    · cases h
  · cases h
def own_x_lstore (k : Nat) (Ls : Array Slot) (st : List Value) : Option (Array Slot × List Value) := match st with | .long v :: rest => (match storeLocals Ls k (.long v) with | some l' => some (l', rest) | none => none) | _ => none
theorem own_x_lstore_s (X : Stand p l e R s m args below meth c T locs cells slots) (hx : p.tables.exec = Jvm.exec) {k : Nat} (hd : decode c.code pc = .ok (.lstore k, 2)) (h : own_x_lstore k Ls st = some (Ls', st')) (t : State) (r : Steps p.tables e below (T.setTop (mkF m (pc + 2) Ls' st')) t) : Steps p.tables e below (T.setTop (mkF m pc Ls st)) t := by
  unfold own_x_lstore at h
  split at h
  · split at h
    · rename_i ho
      cases h
      exact XS.lstore X.here hx rfl hd rfl ho r
    · cases h
  · cases h
def own_x_lstore_n (k : Fin 4) (Ls : Array Slot) (st : List Value) : Option (Array Slot × List Value) := match st with | .long v :: rest => (match storeLocals Ls k.val (.long v) with | some l' => some (l', rest) | none => none) | _ => none
theorem own_x_lstore_n_s (X : Stand p l e R s m args below meth c T locs cells slots) (hx : p.tables.exec = Jvm.exec) {k : Fin 4} (hd : decode c.code pc = .ok (.lstore_n k, 1)) (h : own_x_lstore_n k Ls st = some (Ls', st')) (t : State) (r : Steps p.tables e below (T.setTop (mkF m (pc + 1) Ls' st')) t) : Steps p.tables e below (T.setTop (mkF m pc Ls st)) t := by
  unfold own_x_lstore_n at h
  split at h
  · split at h
    · rename_i ho
      cases h
      exact XS.lstoreN X.here hx rfl hd rfl ho r
    · cases h
  · cases h
def own_x_astore (k : Nat) (Ls : Array Slot) (st : List Value) : Option (Array Slot × List Value) := match st with | .ref v :: rest => (match storeLocals Ls k (.ref v) with | some l' => some (l', rest) | none => none) | .null :: rest => (match storeLocals Ls k (.null) with | some l' => some (l', rest) | none => none) | _ => none
theorem own_x_astore_s (X : Stand p l e R s m args below meth c T locs cells slots) (hx : p.tables.exec = Jvm.exec) {k : Nat} (hd : decode c.code pc = .ok (.astore k, 2)) (h : own_x_astore k Ls st = some (Ls', st')) (t : State) (r : Steps p.tables e below (T.setTop (mkF m (pc + 2) Ls' st')) t) : Steps p.tables e below (T.setTop (mkF m pc Ls st)) t := by
  unfold own_x_astore at h
  split at h
  · split at h
    · rename_i ho
      cases h
      exact XS.astore X.here hx rfl hd rfl rfl ho r
    · cases h
  · split at h
    · rename_i ho
      cases h
      exact XS.astore X.here hx rfl hd rfl rfl ho r
    · cases h
  · cases h
def own_x_astore_n (k : Fin 4) (Ls : Array Slot) (st : List Value) : Option (Array Slot × List Value) := match st with | .ref v :: rest => (match storeLocals Ls k.val (.ref v) with | some l' => some (l', rest) | none => none) | .null :: rest => (match storeLocals Ls k.val (.null) with | some l' => some (l', rest) | none => none) | _ => none
theorem own_x_astore_n_s (X : Stand p l e R s m args below meth c T locs cells slots) (hx : p.tables.exec = Jvm.exec) {k : Fin 4} (hd : decode c.code pc = .ok (.astore_n k, 1)) (h : own_x_astore_n k Ls st = some (Ls', st')) (t : State) (r : Steps p.tables e below (T.setTop (mkF m (pc + 1) Ls' st')) t) : Steps p.tables e below (T.setTop (mkF m pc Ls st)) t := by
  unfold own_x_astore_n at h
  split at h
  · split at h
    · rename_i ho
      cases h
      exact XS.astoreN X.here hx rfl hd rfl rfl ho r
    · cases h
  · split at h
    · rename_i ho
      cases h
      exact XS.astoreN X.here hx rfl hd rfl rfl ho r
    · cases h
  · cases h
def own_x_iconst (i : Int) (Ls : Array Slot) (st : List Value) : Option (Array Slot × List Value) := some (Ls, .int (Int32.ofInt i) :: st)
theorem own_x_iconst_s (X : Stand p l e R s m args below meth c T locs cells slots) (hx : p.tables.exec = Jvm.exec) {i : Int} (hd : decode c.code pc = .ok (.iconst i, 1)) (h : own_x_iconst i Ls st = some (Ls', st')) (t : State) (r : Steps p.tables e below (T.setTop (mkF m (pc + 1) Ls' st')) t) : Steps p.tables e below (T.setTop (mkF m pc Ls st)) t := by
  unfold own_x_iconst at h
  cases h
  exact XS.iconst X.here hx rfl hd r
def own_x_bipush (i : Int) (Ls : Array Slot) (st : List Value) : Option (Array Slot × List Value) := some (Ls, .int (Int8.ofInt i).toInt32 :: st)
theorem own_x_bipush_s (X : Stand p l e R s m args below meth c T locs cells slots) (hx : p.tables.exec = Jvm.exec) {i : Int} (hd : decode c.code pc = .ok (.bipush i, 2)) (h : own_x_bipush i Ls st = some (Ls', st')) (t : State) (r : Steps p.tables e below (T.setTop (mkF m (pc + 2) Ls' st')) t) : Steps p.tables e below (T.setTop (mkF m pc Ls st)) t := by
  unfold own_x_bipush at h
  cases h
  exact XS.bipush X.here hx rfl hd r
def own_x_sipush (i : Int) (Ls : Array Slot) (st : List Value) : Option (Array Slot × List Value) := some (Ls, .int (Int16.ofInt i).toInt32 :: st)
theorem own_x_sipush_s (X : Stand p l e R s m args below meth c T locs cells slots) (hx : p.tables.exec = Jvm.exec) {i : Int} (hd : decode c.code pc = .ok (.sipush i, 3)) (h : own_x_sipush i Ls st = some (Ls', st')) (t : State) (r : Steps p.tables e below (T.setTop (mkF m (pc + 3) Ls' st')) t) : Steps p.tables e below (T.setTop (mkF m pc Ls st)) t := by
  unfold own_x_sipush at h
  cases h
  exact XS.sipush X.here hx rfl hd r
def own_x_aconst_null (Ls : Array Slot) (st : List Value) : Option (Array Slot × List Value) := some (Ls, .null :: st)
theorem own_x_aconst_null_s (X : Stand p l e R s m args below meth c T locs cells slots) (hx : p.tables.exec = Jvm.exec) (hd : decode c.code pc = .ok (.aconst_null, 1)) (h : own_x_aconst_null Ls st = some (Ls', st')) (t : State) (r : Steps p.tables e below (T.setTop (mkF m (pc + 1) Ls' st')) t) : Steps p.tables e below (T.setTop (mkF m pc Ls st)) t := by
  unfold own_x_aconst_null at h
  cases h
  exact XS.aconstNull X.here hx rfl hd r
def own_x_iadd (Ls : Array Slot) (st : List Value) : Option (Array Slot × List Value) := match st with | .int y :: .int x :: rest => (some (Ls, .int (x + y) :: rest)) | _ => none
theorem own_x_iadd_s (X : Stand p l e R s m args below meth c T locs cells slots) (hx : p.tables.exec = Jvm.exec) (hd : decode c.code pc = .ok (.iadd, 1)) (h : own_x_iadd Ls st = some (Ls', st')) (t : State) (r : Steps p.tables e below (T.setTop (mkF m (pc + 1) Ls' st')) t) : Steps p.tables e below (T.setTop (mkF m pc Ls st)) t := by
  unfold own_x_iadd at h
  split at h
  · cases h
    exact XS.iadd X.here hx rfl hd rfl r
  · cases h
def own_x_isub (Ls : Array Slot) (st : List Value) : Option (Array Slot × List Value) := match st with | .int y :: .int x :: rest => (some (Ls, .int (x - y) :: rest)) | _ => none
theorem own_x_isub_s (X : Stand p l e R s m args below meth c T locs cells slots) (hx : p.tables.exec = Jvm.exec) (hd : decode c.code pc = .ok (.isub, 1)) (h : own_x_isub Ls st = some (Ls', st')) (t : State) (r : Steps p.tables e below (T.setTop (mkF m (pc + 1) Ls' st')) t) : Steps p.tables e below (T.setTop (mkF m pc Ls st)) t := by
  unfold own_x_isub at h
  split at h
  · cases h
    exact XS.isub X.here hx rfl hd rfl r
  · cases h
def own_x_imul (Ls : Array Slot) (st : List Value) : Option (Array Slot × List Value) := match st with | .int y :: .int x :: rest => (some (Ls, .int (x * y) :: rest)) | _ => none
theorem own_x_imul_s (X : Stand p l e R s m args below meth c T locs cells slots) (hx : p.tables.exec = Jvm.exec) (hd : decode c.code pc = .ok (.imul, 1)) (h : own_x_imul Ls st = some (Ls', st')) (t : State) (r : Steps p.tables e below (T.setTop (mkF m (pc + 1) Ls' st')) t) : Steps p.tables e below (T.setTop (mkF m pc Ls st)) t := by
  unfold own_x_imul at h
  split at h
  · cases h
    exact XS.imul X.here hx rfl hd rfl r
  · cases h
def own_x_iand (Ls : Array Slot) (st : List Value) : Option (Array Slot × List Value) := match st with | .int y :: .int x :: rest => (some (Ls, .int (x &&& y) :: rest)) | _ => none
theorem own_x_iand_s (X : Stand p l e R s m args below meth c T locs cells slots) (hx : p.tables.exec = Jvm.exec) (hd : decode c.code pc = .ok (.iand, 1)) (h : own_x_iand Ls st = some (Ls', st')) (t : State) (r : Steps p.tables e below (T.setTop (mkF m (pc + 1) Ls' st')) t) : Steps p.tables e below (T.setTop (mkF m pc Ls st)) t := by
  unfold own_x_iand at h
  split at h
  · cases h
    exact XS.iand X.here hx rfl hd rfl r
  · cases h
def own_x_ior (Ls : Array Slot) (st : List Value) : Option (Array Slot × List Value) := match st with | .int y :: .int x :: rest => (some (Ls, .int (x ||| y) :: rest)) | _ => none
theorem own_x_ior_s (X : Stand p l e R s m args below meth c T locs cells slots) (hx : p.tables.exec = Jvm.exec) (hd : decode c.code pc = .ok (.ior, 1)) (h : own_x_ior Ls st = some (Ls', st')) (t : State) (r : Steps p.tables e below (T.setTop (mkF m (pc + 1) Ls' st')) t) : Steps p.tables e below (T.setTop (mkF m pc Ls st)) t := by
  unfold own_x_ior at h
  split at h
  · cases h
    exact XS.ior X.here hx rfl hd rfl r
  · cases h
def own_x_ixor (Ls : Array Slot) (st : List Value) : Option (Array Slot × List Value) := match st with | .int y :: .int x :: rest => (some (Ls, .int (x ^^^ y) :: rest)) | _ => none
theorem own_x_ixor_s (X : Stand p l e R s m args below meth c T locs cells slots) (hx : p.tables.exec = Jvm.exec) (hd : decode c.code pc = .ok (.ixor, 1)) (h : own_x_ixor Ls st = some (Ls', st')) (t : State) (r : Steps p.tables e below (T.setTop (mkF m (pc + 1) Ls' st')) t) : Steps p.tables e below (T.setTop (mkF m pc Ls st)) t := by
  unfold own_x_ixor at h
  split at h
  · cases h
    exact XS.ixor X.here hx rfl hd rfl r
  · cases h
def own_x_ishl (Ls : Array Slot) (st : List Value) : Option (Array Slot × List Value) := match st with | .int y :: .int x :: rest => (some (Ls, .int (x <<< (y &&& 31)) :: rest)) | _ => none
theorem own_x_ishl_s (X : Stand p l e R s m args below meth c T locs cells slots) (hx : p.tables.exec = Jvm.exec) (hd : decode c.code pc = .ok (.ishl, 1)) (h : own_x_ishl Ls st = some (Ls', st')) (t : State) (r : Steps p.tables e below (T.setTop (mkF m (pc + 1) Ls' st')) t) : Steps p.tables e below (T.setTop (mkF m pc Ls st)) t := by
  unfold own_x_ishl at h
  split at h
  · cases h
    exact XS.ishl X.here hx rfl hd rfl r
  · cases h
def own_x_ishr (Ls : Array Slot) (st : List Value) : Option (Array Slot × List Value) := match st with | .int y :: .int x :: rest => (some (Ls, .int (x >>> (y &&& 31)) :: rest)) | _ => none
theorem own_x_ishr_s (X : Stand p l e R s m args below meth c T locs cells slots) (hx : p.tables.exec = Jvm.exec) (hd : decode c.code pc = .ok (.ishr, 1)) (h : own_x_ishr Ls st = some (Ls', st')) (t : State) (r : Steps p.tables e below (T.setTop (mkF m (pc + 1) Ls' st')) t) : Steps p.tables e below (T.setTop (mkF m pc Ls st)) t := by
  unfold own_x_ishr at h
  split at h
  · cases h
    exact XS.ishr X.here hx rfl hd rfl r
  · cases h
def own_x_iushr (Ls : Array Slot) (st : List Value) : Option (Array Slot × List Value) := match st with | .int y :: .int x :: rest => (some (Ls, .int ((x.toUInt32 >>> (y &&& 31).toUInt32).toInt32) :: rest)) | _ => none
theorem own_x_iushr_s (X : Stand p l e R s m args below meth c T locs cells slots) (hx : p.tables.exec = Jvm.exec) (hd : decode c.code pc = .ok (.iushr, 1)) (h : own_x_iushr Ls st = some (Ls', st')) (t : State) (r : Steps p.tables e below (T.setTop (mkF m (pc + 1) Ls' st')) t) : Steps p.tables e below (T.setTop (mkF m pc Ls st)) t := by
  unfold own_x_iushr at h
  split at h
  · cases h
    exact XS.iushr X.here hx rfl hd rfl r
  · cases h
def own_x_ladd (Ls : Array Slot) (st : List Value) : Option (Array Slot × List Value) := match st with | .long y :: .long x :: rest => (some (Ls, .long (x + y) :: rest)) | _ => none
theorem own_x_ladd_s (X : Stand p l e R s m args below meth c T locs cells slots) (hx : p.tables.exec = Jvm.exec) (hd : decode c.code pc = .ok (.ladd, 1)) (h : own_x_ladd Ls st = some (Ls', st')) (t : State) (r : Steps p.tables e below (T.setTop (mkF m (pc + 1) Ls' st')) t) : Steps p.tables e below (T.setTop (mkF m pc Ls st)) t := by
  unfold own_x_ladd at h
  split at h
  · cases h
    exact XS.ladd X.here hx rfl hd rfl r
  · cases h
def own_x_lsub (Ls : Array Slot) (st : List Value) : Option (Array Slot × List Value) := match st with | .long y :: .long x :: rest => (some (Ls, .long (x - y) :: rest)) | _ => none
theorem own_x_lsub_s (X : Stand p l e R s m args below meth c T locs cells slots) (hx : p.tables.exec = Jvm.exec) (hd : decode c.code pc = .ok (.lsub, 1)) (h : own_x_lsub Ls st = some (Ls', st')) (t : State) (r : Steps p.tables e below (T.setTop (mkF m (pc + 1) Ls' st')) t) : Steps p.tables e below (T.setTop (mkF m pc Ls st)) t := by
  unfold own_x_lsub at h
  split at h
  · cases h
    exact XS.lsub X.here hx rfl hd rfl r
  · cases h
def own_x_land (Ls : Array Slot) (st : List Value) : Option (Array Slot × List Value) := match st with | .long y :: .long x :: rest => (some (Ls, .long (x &&& y) :: rest)) | _ => none
theorem own_x_land_s (X : Stand p l e R s m args below meth c T locs cells slots) (hx : p.tables.exec = Jvm.exec) (hd : decode c.code pc = .ok (.land, 1)) (h : own_x_land Ls st = some (Ls', st')) (t : State) (r : Steps p.tables e below (T.setTop (mkF m (pc + 1) Ls' st')) t) : Steps p.tables e below (T.setTop (mkF m pc Ls st)) t := by
  unfold own_x_land at h
  split at h
  · cases h
    exact XS.land X.here hx rfl hd rfl r
  · cases h
def own_x_lxor (Ls : Array Slot) (st : List Value) : Option (Array Slot × List Value) := match st with | .long y :: .long x :: rest => (some (Ls, .long (x ^^^ y) :: rest)) | _ => none
theorem own_x_lxor_s (X : Stand p l e R s m args below meth c T locs cells slots) (hx : p.tables.exec = Jvm.exec) (hd : decode c.code pc = .ok (.lxor, 1)) (h : own_x_lxor Ls st = some (Ls', st')) (t : State) (r : Steps p.tables e below (T.setTop (mkF m (pc + 1) Ls' st')) t) : Steps p.tables e below (T.setTop (mkF m pc Ls st)) t := by
  unfold own_x_lxor at h
  split at h
  · cases h
    exact XS.lxor X.here hx rfl hd rfl r
  · cases h
def own_x_i2b (Ls : Array Slot) (st : List Value) : Option (Array Slot × List Value) := match st with | .int x :: rest => (some (Ls, .int x.toInt8.toInt32 :: rest)) | _ => none
theorem own_x_i2b_s (X : Stand p l e R s m args below meth c T locs cells slots) (hx : p.tables.exec = Jvm.exec) (hd : decode c.code pc = .ok (.i2b, 1)) (h : own_x_i2b Ls st = some (Ls', st')) (t : State) (r : Steps p.tables e below (T.setTop (mkF m (pc + 1) Ls' st')) t) : Steps p.tables e below (T.setTop (mkF m pc Ls st)) t := by
  unfold own_x_i2b at h
  split at h
  · cases h
    exact XS.i2b X.here hx rfl hd rfl r
  · cases h
def own_x_i2c (Ls : Array Slot) (st : List Value) : Option (Array Slot × List Value) := match st with | .int x :: rest => (some (Ls, .int x.toUInt32.toUInt16.toUInt32.toInt32 :: rest)) | _ => none
theorem own_x_i2c_s (X : Stand p l e R s m args below meth c T locs cells slots) (hx : p.tables.exec = Jvm.exec) (hd : decode c.code pc = .ok (.i2c, 1)) (h : own_x_i2c Ls st = some (Ls', st')) (t : State) (r : Steps p.tables e below (T.setTop (mkF m (pc + 1) Ls' st')) t) : Steps p.tables e below (T.setTop (mkF m pc Ls st)) t := by
  unfold own_x_i2c at h
  split at h
  · cases h
    exact XS.i2c X.here hx rfl hd rfl r
  · cases h
def own_x_i2l (Ls : Array Slot) (st : List Value) : Option (Array Slot × List Value) := match st with | .int x :: rest => (some (Ls, .long x.toInt64 :: rest)) | _ => none
theorem own_x_i2l_s (X : Stand p l e R s m args below meth c T locs cells slots) (hx : p.tables.exec = Jvm.exec) (hd : decode c.code pc = .ok (.i2l, 1)) (h : own_x_i2l Ls st = some (Ls', st')) (t : State) (r : Steps p.tables e below (T.setTop (mkF m (pc + 1) Ls' st')) t) : Steps p.tables e below (T.setTop (mkF m pc Ls st)) t := by
  unfold own_x_i2l at h
  split at h
  · cases h
    exact XS.i2l X.here hx rfl hd rfl r
  · cases h
def own_x_l2i (Ls : Array Slot) (st : List Value) : Option (Array Slot × List Value) := match st with | .long x :: rest => (some (Ls, .int x.toInt32 :: rest)) | _ => none
theorem own_x_l2i_s (X : Stand p l e R s m args below meth c T locs cells slots) (hx : p.tables.exec = Jvm.exec) (hd : decode c.code pc = .ok (.l2i, 1)) (h : own_x_l2i Ls st = some (Ls', st')) (t : State) (r : Steps p.tables e below (T.setTop (mkF m (pc + 1) Ls' st')) t) : Steps p.tables e below (T.setTop (mkF m pc Ls st)) t := by
  unfold own_x_l2i at h
  split at h
  · cases h
    exact XS.l2i X.here hx rfl hd rfl r
  · cases h
def own_x_ineg (Ls : Array Slot) (st : List Value) : Option (Array Slot × List Value) := match st with | .int x :: rest => (some (Ls, .int (-x) :: rest)) | _ => none
theorem own_x_ineg_s (X : Stand p l e R s m args below meth c T locs cells slots) (hx : p.tables.exec = Jvm.exec) (hd : decode c.code pc = .ok (.ineg, 1)) (h : own_x_ineg Ls st = some (Ls', st')) (t : State) (r : Steps p.tables e below (T.setTop (mkF m (pc + 1) Ls' st')) t) : Steps p.tables e below (T.setTop (mkF m pc Ls st)) t := by
  unfold own_x_ineg at h
  split at h
  · cases h
    exact XS.ineg X.here hx rfl hd rfl r
  · cases h
def own_x_lneg (Ls : Array Slot) (st : List Value) : Option (Array Slot × List Value) := match st with | .long x :: rest => (some (Ls, .long (-x) :: rest)) | _ => none
theorem own_x_lneg_s (X : Stand p l e R s m args below meth c T locs cells slots) (hx : p.tables.exec = Jvm.exec) (hd : decode c.code pc = .ok (.lneg, 1)) (h : own_x_lneg Ls st = some (Ls', st')) (t : State) (r : Steps p.tables e below (T.setTop (mkF m (pc + 1) Ls' st')) t) : Steps p.tables e below (T.setTop (mkF m pc Ls st)) t := by
  unfold own_x_lneg at h
  split at h
  · cases h
    exact XS.lneg X.here hx rfl hd rfl r
  · cases h
def own_x_dup (Ls : Array Slot) (st : List Value) : Option (Array Slot × List Value) := match st with | .ref v :: rest => (some (Ls, .ref v :: .ref v :: rest)) | .null :: rest => (some (Ls, .null :: .null :: rest)) | .int v :: rest => (some (Ls, .int v :: .int v :: rest)) | _ => none
theorem own_x_dup_s (X : Stand p l e R s m args below meth c T locs cells slots) (hx : p.tables.exec = Jvm.exec) (hd : decode c.code pc = .ok (.dup, 1)) (h : own_x_dup Ls st = some (Ls', st')) (t : State) (r : Steps p.tables e below (T.setTop (mkF m (pc + 1) Ls' st')) t) : Steps p.tables e below (T.setTop (mkF m pc Ls st)) t := by
  unfold own_x_dup at h
  split at h
  · cases h
    exact XS.dup X.here hx rfl hd rfl rfl r
  · cases h
    exact XS.dup X.here hx rfl hd rfl rfl r
  · cases h
    exact XS.dup X.here hx rfl hd rfl rfl r
  · cases h
def own_x_pop (Ls : Array Slot) (st : List Value) : Option (Array Slot × List Value) := match st with | .ref v :: rest => (some (Ls, rest)) | .null :: rest => (some (Ls, rest)) | .int v :: rest => (some (Ls, rest)) | _ => none
theorem own_x_pop_s (X : Stand p l e R s m args below meth c T locs cells slots) (hx : p.tables.exec = Jvm.exec) (hd : decode c.code pc = .ok (.pop, 1)) (h : own_x_pop Ls st = some (Ls', st')) (t : State) (r : Steps p.tables e below (T.setTop (mkF m (pc + 1) Ls' st')) t) : Steps p.tables e below (T.setTop (mkF m pc Ls st)) t := by
  unfold own_x_pop at h
  split at h
  · cases h
    exact XS.pop X.here hx rfl hd rfl rfl r
  · cases h
    exact XS.pop X.here hx rfl hd rfl rfl r
  · cases h
    exact XS.pop X.here hx rfl hd rfl rfl r
  · cases h
def own_x_dup_x1 (Ls : Array Slot) (st : List Value) : Option (Array Slot × List Value) := match st with | .ref v :: .ref y :: rest => (some (Ls, .ref v :: .ref y :: .ref v :: rest)) | .null :: .ref y :: rest => (some (Ls, .null :: .ref y :: .null :: rest)) | .int v :: .ref y :: rest => (some (Ls, .int v :: .ref y :: .int v :: rest)) | _ => none
theorem own_x_dup_x1_s (X : Stand p l e R s m args below meth c T locs cells slots) (hx : p.tables.exec = Jvm.exec) (hd : decode c.code pc = .ok (.dup_x1, 1)) (h : own_x_dup_x1 Ls st = some (Ls', st')) (t : State) (r : Steps p.tables e below (T.setTop (mkF m (pc + 1) Ls' st')) t) : Steps p.tables e below (T.setTop (mkF m pc Ls st)) t := by
  unfold own_x_dup_x1 at h
  split at h
  · cases h
    exact XS.dupX1 X.here hx rfl hd rfl rfl rfl r
  · cases h
    exact XS.dupX1 X.here hx rfl hd rfl rfl rfl r
  · cases h
    exact XS.dupX1 X.here hx rfl hd rfl rfl rfl r
  · cases h
def own_x_iinc (k : Nat) (i : Int) (Ls : Array Slot) (st : List Value) : Option (Array Slot × List Value) := match Ls[k]? with | some (.val (.int x)) => (match storeLocals Ls k (.int (x + Int32.ofInt i)) with | some l' => some (l', st) | none => none) | _ => none
theorem own_x_iinc_s (X : Stand p l e R s m args below meth c T locs cells slots) (hx : p.tables.exec = Jvm.exec) {k : Nat} {i : Int} (hd : decode c.code pc = .ok (.iinc k i, 3)) (h : own_x_iinc k i Ls st = some (Ls', st')) (t : State) (r : Steps p.tables e below (T.setTop (mkF m (pc + 3) Ls' st')) t) : Steps p.tables e below (T.setTop (mkF m pc Ls st)) t := by
  unfold own_x_iinc at h
  split at h
  · rename_i hv
    split at h
    · rename_i ho
      cases h
      exact XS.iinc X.here hx rfl hd hv ho r
    · cases h
  · cases h
def own_ex (i : Instr) (n : Nat) (Ls : Array Slot) (st : List Value) : Option (Array Slot × List Value) := match i, n with | .iload k, 2 => own_x_iload k Ls st | .iload_n k, 1 => own_x_iload_n k Ls st | .lload k, 2 => own_x_lload k Ls st | .lload_n k, 1 => own_x_lload_n k Ls st | .aload k, 2 => own_x_aload k Ls st | .aload_n k, 1 => own_x_aload_n k Ls st | .istore k, 2 => own_x_istore k Ls st | .istore_n k, 1 => own_x_istore_n k Ls st | .lstore k, 2 => own_x_lstore k Ls st | .lstore_n k, 1 => own_x_lstore_n k Ls st | .astore k, 2 => own_x_astore k Ls st | .astore_n k, 1 => own_x_astore_n k Ls st | .iconst i, 1 => own_x_iconst i Ls st | .bipush i, 2 => own_x_bipush i Ls st | .sipush i, 3 => own_x_sipush i Ls st | .aconst_null, 1 => own_x_aconst_null Ls st | .iadd, 1 => own_x_iadd Ls st | .isub, 1 => own_x_isub Ls st | .imul, 1 => own_x_imul Ls st | .iand, 1 => own_x_iand Ls st | .ior, 1 => own_x_ior Ls st | .ixor, 1 => own_x_ixor Ls st | .ishl, 1 => own_x_ishl Ls st | .ishr, 1 => own_x_ishr Ls st | .iushr, 1 => own_x_iushr Ls st | .ladd, 1 => own_x_ladd Ls st | .lsub, 1 => own_x_lsub Ls st | .land, 1 => own_x_land Ls st | .lxor, 1 => own_x_lxor Ls st | .i2b, 1 => own_x_i2b Ls st | .i2c, 1 => own_x_i2c Ls st | .i2l, 1 => own_x_i2l Ls st | .l2i, 1 => own_x_l2i Ls st | .ineg, 1 => own_x_ineg Ls st | .lneg, 1 => own_x_lneg Ls st | .dup, 1 => own_x_dup Ls st | .pop, 1 => own_x_pop Ls st | .dup_x1, 1 => own_x_dup_x1 Ls st | .iinc k i, 3 => own_x_iinc k i Ls st | _, _ => none
theorem own_ex_s (X : Stand p l e R s m args below meth c T locs cells slots) (hx : p.tables.exec = Jvm.exec) {i : Instr} {n : Nat} (hd : decode c.code pc = .ok (i, n)) (h : own_ex i n Ls st = some (Ls', st')) (t : State) (r : Steps p.tables e below (T.setTop (mkF m (pc + n) Ls' st')) t) : Steps p.tables e below (T.setTop (mkF m pc Ls st)) t := by
  unfold own_ex at h
  split at h
  · exact own_x_iload_s X hx hd h t r
  · exact own_x_iload_n_s X hx hd h t r
  · exact own_x_lload_s X hx hd h t r
  · exact own_x_lload_n_s X hx hd h t r
  · exact own_x_aload_s X hx hd h t r
  · exact own_x_aload_n_s X hx hd h t r
  · exact own_x_istore_s X hx hd h t r
  · exact own_x_istore_n_s X hx hd h t r
  · exact own_x_lstore_s X hx hd h t r
  · exact own_x_lstore_n_s X hx hd h t r
  · exact own_x_astore_s X hx hd h t r
  · exact own_x_astore_n_s X hx hd h t r
  · exact own_x_iconst_s X hx hd h t r
  · exact own_x_bipush_s X hx hd h t r
  · exact own_x_sipush_s X hx hd h t r
  · exact own_x_aconst_null_s X hx hd h t r
  · exact own_x_iadd_s X hx hd h t r
  · exact own_x_isub_s X hx hd h t r
  · exact own_x_imul_s X hx hd h t r
  · exact own_x_iand_s X hx hd h t r
  · exact own_x_ior_s X hx hd h t r
  · exact own_x_ixor_s X hx hd h t r
  · exact own_x_ishl_s X hx hd h t r
  · exact own_x_ishr_s X hx hd h t r
  · exact own_x_iushr_s X hx hd h t r
  · exact own_x_ladd_s X hx hd h t r
  · exact own_x_lsub_s X hx hd h t r
  · exact own_x_land_s X hx hd h t r
  · exact own_x_lxor_s X hx hd h t r
  · exact own_x_i2b_s X hx hd h t r
  · exact own_x_i2c_s X hx hd h t r
  · exact own_x_i2l_s X hx hd h t r
  · exact own_x_l2i_s X hx hd h t r
  · exact own_x_ineg_s X hx hd h t r
  · exact own_x_lneg_s X hx hd h t r
  · exact own_x_dup_s X hx hd h t r
  · exact own_x_pop_s X hx hd h t r
  · exact own_x_dup_x1_s X hx hd h t r
  · exact own_x_iinc_s X hx hd h t r
  · cases h
def own_exs : List (Instr × Nat) → Array Slot → List Value → Option (Array Slot × List Value)
  | [], Ls, st => some (Ls, st)
  | (i, n) :: is, Ls, st => match own_ex i n Ls st with | some (Ls1, st1) => own_exs is Ls1 st1 | none => none
def own_dec (b : ByteArray) : Nat → List (Instr × Nat) → Bool
  | _, [] => true
  | pc, (i, n) :: is => decide (decode b pc = .ok (i, n)) && own_dec b (pc + n) is
def own_end : Nat → List (Instr × Nat) → Nat
  | pc, [] => pc
  | pc, (_, n) :: is => own_end (pc + n) is
theorem own_run (X : Stand p l e R s m args below meth c T locs cells slots) (hx : p.tables.exec = Jvm.exec) {b : ByteArray} (hb : c.code = b) : ∀ (is : List (Instr × Nat)) {pc : Nat} {Ls : Array Slot} {st : List Value}, own_dec b pc is = true → own_exs is Ls st = some (Ls', st') → ∀ t, Steps p.tables e below (T.setTop (mkF m (own_end pc is) Ls' st')) t → Steps p.tables e below (T.setTop (mkF m pc Ls st)) t
  | [], pc, Ls, st, _, h, t, r => by cases h; exact r
  | (i, n) :: is, pc, Ls, st, hd, h, t, r => by
    unfold own_dec at hd
    unfold own_exs at h
    obtain ⟨h1, h2⟩ := Bool.and_eq_true_iff.mp hd
    split at h
    · rename_i Ls1 st1 h3
      exact own_ex_s X hx (by rw [hb]; exact of_decide_eq_true h1) h3 t (own_run X hx hb is h2 h t r)
    · cases h
theorem own_ru (q : Nat) (st' : List Value) (X : Stand p l e R s m args below meth c T locs cells slots) (hx : p.tables.exec = Jvm.exec) {b : ByteArray} (hb : c.code = b) {is : List (Instr × Nat)} (hd : own_dec b pc is = true) (h : own_exs is Ls st = some (Ls, st')) (hq : own_end pc is = q) (k : own_Fin p.tables e below Post (T.setTop (mkF m q Ls st'))) : own_Fin p.tables e below Post (T.setTop (mkF m pc Ls st)) := by
  subst hq
  exact own_Fin.step (own_run X hx hb is hd h) k
theorem own_rl (q : Nat) (Ls' : Array Slot) (st' : List Value) (X : Stand p l e R s m args below meth c T locs cells slots) (hx : p.tables.exec = Jvm.exec) {b : ByteArray} (hb : c.code = b) {is : List (Instr × Nat)} (hd : own_dec b pc is = true) (h : own_exs is Ls st = some (Ls', st')) (hq : own_end pc is = q) (k : own_Fin p.tables e below Post (T.setTop (mkF m q Ls' st'))) : own_Fin p.tables e below Post (T.setTop (mkF m pc Ls st)) := by
  subst hq
  exact own_Fin.step (own_run X hx hb is hd h) k
end Run
end Jvm.RoadKit
namespace Jvm.RoadKit
open Sem ClassFile Op Lib Jvm.Stand Jvm.Free Jvm.LawKit
abbrev own_rm (f c s l : Nat) : Room := { frames := f, cells := c, slots := s, locals := l }
/-- the contract of a body: handed 'as' at the heap h0 it returns, and Q tells what -/
abbrev own_Met (l : Launch) (y : MethodName) (b : ByteArray) (ml : Nat) (rt : Option FieldType) (ws : List Cond) (rm : Room) (as : Array Value) (Z : State) (h0 : Heap) (Q : Option Value → Heap → List Loc → Prop) (kc ks : Nat) : Prop :=
  MetFree l y (head1 (Cond.code y b ml rt :: ws) rm) (fun a U => a = as ∧ Z.Warmed39 U.vm ∧ U.heap = h0) (fun _ _ _ _ _ => True) (fun _ U o U' => ∃ v L, o = .returned v ∧ Q v U'.heap L ∧ FrameEnd U o U' L kc ks)
theorem own_body {l : Launch} {y : MethodName} {b : ByteArray} {ml : Nat} {rt : Option FieldType} {ws : List Cond} {rm : Room} {as : Array Value} {Z : State} {h0 : Heap} {Q : Option Value → Heap → List Loc → Prop} {kc ks : Nat} (hpl : plainFor y = true) {Ls : Array Slot} (hef : ∀ m, entryFrame m as ml = mkF m 0 Ls [])
    (k : ∀ (p : Program) (e : Env) (s : State) (m : MethodId) (below : List Frame) (meth : Method) (c : Code) (T : State), Stand p l e rm s m as below meth c T [] 0 0 → p.tables.exec = Jvm.exec → c.code = b → c.maxLocals = ml → Z.Warmed39 s.vm → T.heap = h0 → s.vm.findClass y.cls = some m.cls → meth.name = y.name → meth.locks = false → meth.sig.returnType = rt →
      own_Fin p.tables e below (own_post Q s kc ks) (T.setTop (mkF m 0 Ls []))) : own_Met l y b ml rt ws rm as Z h0 Q kc ks := by
  refine MetFree.of_bodySF hpl hisR ?_
  intro p e s m args below meth c s₁ Bd hml0 hP hK
  obtain ⟨rfl, hZ, hh⟩ := hP
  have X0 : Stand p l e rm s m args below meth c s₁ [] 0 0 := Stand.of_body Bd
  have e0 : s₁.heap = h0 := by rw [← hh, Bd.state]; rfl
  have k1 := k p e s m below meth c s₁ X0 Bd.exec Bd.bytes hml0 hZ e0 (findClass_of_methodNamed Bd.named) (name_of_methodNamed Bd.named Bd.method).1 (BodyLoose.notSynchronized Bd) Bd.returns
  show own_Fin p.tables e below (own_post Q s kc ks) (s₁.setTop (entryFrame m args ml))
  rw [hef m]
  exact k1
theorem own_insKeep {Z : State} {h h' : Heap} {b : Addr} {C : String} {bo : Bool} {ws : List Addr} (F : Ins Z h b C bo) (K : Keep h h' ws) : Ins Z h' b C bo := by
  obtain ⟨cell, k, h1, r⟩ := F
  obtain ⟨c', q, e1, e2, -⟩ := K.2.2 _ _ h1
  refine ⟨c', k, q, ?_⟩
  rw [e1, e2]
  exact r
end Jvm.RoadKit
namespace Jvm.RoadKit
open Sem ClassFile Op Lib Jvm.Stand Jvm.Free Jvm.LawKit
/-- the end of a run that may have interned texts -/
def own_postW (Q : Option Value → Heap → List Loc → Prop) (s : State) (k n : Nat) (o : Outcome) (U : State) : Prop := ∃ v L, o = .returned v ∧ Q v U.heap L ∧ ReturnedEndW s o U L k n
theorem own_Fin.mono {tb : Tables} {e : Env} {below : List Frame} {P P' : Outcome → State → Prop} {S : State} (h : ∀ o U, P o U → P' o U) (k : own_Fin tb e below P S) : own_Fin tb e below P' S := by
  obtain ⟨s2, o, h1, h2, h3, h4⟩ := k
  exact ⟨s2, o, h1, h2, h3, h _ _ h4⟩
theorem own_narrow {Q : Option Value → Heap → List Loc → Prop} {s : State} {k n : Nat} (o : Outcome) (U : State) (h : own_post Q s k n o U) : own_postW Q s k n o U := by
  obtain ⟨v, L, h1, h2, h3⟩ := h
  exact ⟨v, L, h1, h2, ReturnedEndW.of_narrow h3.1 h3.2.1 h3.2.2⟩
abbrev own_MetW (l : Launch) (y : MethodName) (b : ByteArray) (ml : Nat) (rt : Option FieldType) (ws : List Cond) (rm : Room) (as : Array Value) (Z : State) (h0 : Heap) (Q : Option Value → Heap → List Loc → Prop) (kc ks : Nat) : Prop :=
  MetFree l y (head1 (Cond.code y b ml rt :: ws) rm) (fun a U => a = as ∧ Z.Warmed39 U.vm ∧ U.heap = h0 ∧ IB Z U.vm []) (fun _ _ _ _ _ => True) (fun _ U o U' => ∃ v L, o = .returned v ∧ Q v U'.heap L ∧ ReturnedEndW U o U' L kc ks)
theorem own_bodyW {l : Launch} {y : MethodName} {b : ByteArray} {ml : Nat} {rt : Option FieldType} {ws : List Cond} {rm : Room} {as : Array Value} {Z : State} {h0 : Heap} {Q : Option Value → Heap → List Loc → Prop} {kc ks : Nat} (hpl : plainFor y = true) {Ls : Array Slot} (hef : ∀ m, entryFrame m as ml = mkF m 0 Ls [])
    (k : ∀ (p : Program) (e : Env) (s : State) (m : MethodId) (below : List Frame) (meth : Method) (c : Code) (T : State), Stand p l e rm s m as below meth c T [] 0 0 → p.tables.exec = Jvm.exec → c.code = b → c.maxLocals = ml → Z.Warmed39 s.vm → T.heap = h0 → s.vm.findClass y.cls = some m.cls → meth.name = y.name → meth.locks = false → meth.sig.returnType = rt → s.heap = h0 → IB Z s.vm [] →
      own_Fin p.tables e below (own_postW Q s kc ks) (T.setTop (mkF m 0 Ls []))) : own_MetW l y b ml rt ws rm as Z h0 Q kc ks := by
  refine MetFree.of_bodySF hpl hisR ?_
  intro p e s m args below meth c s₁ Bd hml0 hP hK
  obtain ⟨rfl, hZ, hh, hI⟩ := hP
  have X0 : Stand p l e rm s m args below meth c s₁ [] 0 0 := Stand.of_body Bd
  have e0 : s₁.heap = h0 := by rw [← hh, Bd.state]; rfl
  have k1 := k p e s m below meth c s₁ X0 Bd.exec Bd.bytes hml0 hZ e0 (findClass_of_methodNamed Bd.named) (name_of_methodNamed Bd.named Bd.method).1 (BodyLoose.notSynchronized Bd) Bd.returns hh hI
  show own_Fin p.tables e below (own_postW Q s kc ks) (s₁.setTop (entryFrame m args ml))
  rw [hef m]
  exact k1
section Wide
variable {p : Program} {l : Launch} {e : Env} {R : Room} {s : State} {m : MethodId} {args : Array Value} {below : List Frame} {meth : Method} {c : Code} {T : State} {locs : List Loc} {cells slots : Nat} {Z : State} {a0 : Array Value} {h : Heap} {Post : Outcome → State → Prop} {pc : Nat} {Ls : Array Slot} {st : List Value} {Q : Option Value → Heap → List Loc → Prop} {kc ks : Nat}
theorem own_retVW {vm1 : Vm} {k1 : Nat} (X : Stand p l e R (s.setVm vm1) m args below meth c T locs cells slots) (hx : p.tables.exec = Jvm.exec) (hlk : meth.locks = false) (hS : s.Since vm1 k1) (hk : k1 ≤ T.heap.size) (hret : meth.sig.returnType = none) (hd : decode c.code pc = .ok (.return_, 1)) (eT : T.heap = h) (hq : Q none h locs) (hc : cells ≤ kc) (hs : slots ≤ ks) : own_Fin p.tables e below (own_postW Q s kc ks) (T.setTop (mkF m pc Ls [])) := by
  obtain ⟨fs, hr, hrun, hended, hE⟩ := X.leaveW hS hk (v := none) (fun _ => rfl) hlk
  exact ⟨_, _, X.returnOut hx hret hd hr, hrun, hended, _, _, rfl, (eT ▸ hq : Q none T.heap locs), ⟨_, rfl⟩, hE.2.1, hE.2.2.1, hE.2.2.2.mono hc hs⟩
theorem own_retNW {vm1 : Vm} {k1 : Nat} (X : Stand p l e R (s.setVm vm1) m args below meth c T locs cells slots) (hx : p.tables.exec = Jvm.exec) (hlk : meth.locks = false) (hS : s.Since vm1 k1) (hk : k1 ≤ T.heap.size) {z : Int32} {t : FieldType} {rest : List Value} (hret : meth.sig.returnType = some t) (ht : t = .boolean ∨ t = .byte ∨ t = .char ∨ t = .short)
    (hd : decode c.code pc = .ok (.ireturn, 1)) (eT : T.heap = h) (hq : Q (some (.int (nar t z))) h locs) (hc : cells ≤ kc) (hs : slots ≤ ks) : own_Fin p.tables e below (own_postW Q s kc ks) (T.setTop (mkF m pc Ls (.int z :: rest))) := by
  obtain ⟨fs, hr, hrun, hended, hE⟩ := X.leaveW hS hk (v := some (.int (nar t z))) (fun h => by rw [hret] at h; cases h) hlk
  exact ⟨_, _, retN X hx hret ht hd hr, hrun, hended, _, _, rfl, (eT ▸ hq : Q (some (.int (nar t z))) T.heap locs), ⟨_, rfl⟩, hE.2.1, hE.2.2.1, hE.2.2.2.mono hc hs⟩
theorem own_backW {y : MethodName} {bytes : ByteArray} {maxL : Nat} {ret : Option FieldType} {rm : Room} {len W : Nat} {as' : Array Value}
    (hM : own_MetW l y bytes maxL ret [] rm as' Z h Q rm.cells rm.slots)
    (hZ : Z.Warmed39 s.vm) (hI : IB Z s.vm []) (wc : (Cond.code y bytes maxL ret).before a0 Z = true) (wz : (Cond.initialized y.cls).before a0 Z = true) (hf : rm.frames + 1 ≤ R.frames) (hl : W + (maxL + 11) + rm.locals ≤ R.locals) :
    BackS l R p e below s args y len W (fun A a => a = as' ∧ A.U.heap = h ∧ A.cells + rm.cells ≤ R.cells ∧ A.slots + rm.slots ≤ R.slots)
      (fun A _ v B => ∃ L, Q v B.U.heap L ∧ B.locs = A.locs ++ L ∧ B.cells = A.cells + rm.cells ∧ B.slots = A.slots + rm.slots) :=
  BackS.of_freeW (bytes := bytes) (maxL := maxL) (ret := ret) (E := fun _ _ o t L k n => k = rm.cells ∧ n = rm.slots ∧ ∃ v, o = .returned v ∧ Q v t.heap L) hM hf hl
    (fun m meth c A a Y hp => have hU : Z.Warmed39 A.U.vm := wtrans hZ Y.warmed
      ⟨by show (Cond.and _ .tt).before a A.U = true; rw [Cond.before_and, mv hU wc]; rfl, mv hU wc, mv hU wz, hp.2.2.1, hp.2.2.2⟩)
    (fun m meth c A a g mk Y hp => ⟨hp.1, wtrans hZ Y.warmed, hp.2.1, by
      obtain ⟨more, e1, e2⟩ := hI
      exact ⟨more, (show A.U.vm.interned = _ from Y.warmed.interned_eq.trans e1), e2⟩⟩) (fun _ _ _ _ _ _ _ _ _ => trivial)
    (fun _ _ _ _ ⟨v, L, h1, h2, h3⟩ => ⟨L, _, _, h3, rfl, rfl, v, h1, h2⟩)
    (fun m meth c A a g mk v t L k n Y hp _ _ ⟨e1, e2, v', e3, e4⟩ => by cases e3; subst e1 e2; exact ⟨L, e4, rfl, rfl, rfl⟩)
theorem own_cNW (X : Stand p l e R s m args below meth c T locs cells slots) (hx : p.tables.exec = Jvm.exec) (hZ : Z.Warmed39 s.vm) {own : String} {index : Nat} {y : MethodName} {bytes : ByteArray} {maxL : Nat} {rm : Room} {as' : Array Value} {a : Addr} (hown : s.vm.findClass own = some m.cls) (hy1 : y.name = "<init>") (w1 : (Cond.methodLink own index y).before a0 Z = true) (w3 : (Cond.instanceMethod y).before a0 Z = true) (hy : y.cls ≠ "java/lang/invoke/MethodHandle" ∧ y.cls ≠ "java/lang/invoke/VarHandle")
    (wc : (Cond.code y bytes maxL none).before a0 Z = true) (wz : (Cond.initialized y.cls).before a0 Z = true) (hI : IB Z s.vm []) (hM : own_MetW l y bytes maxL none [] rm as' Z h Q rm.cells rm.slots)
    (eT : T.heap = h) (argsL rest : List Value) (q W : Nat) (hd : decode c.code pc = .ok (.invokespecial index, 3)) (hq : pc + 3 = q) (hsz : Ls.size = c.maxLocals) (has : (.ref a :: argsL).toArray = as') (hst : st = argsL.reverse ++ .ref a :: rest) (hlen : ∀ sig, parseMethodDescriptor y.desc = some sig → argsL.length = sig.parameters.length) (hW : 2 * 0 + (rest.map fun v => v.category).sum = W) (hr : (rm.frames + 1 ≤ R.frames ∧ W + (maxL + 11) + rm.locals ≤ R.locals) ∧ cells + rm.cells ≤ R.cells ∧ slots + rm.slots ≤ R.slots)
    (k : ∀ v T' L, Stand p l e R (s.setVm T'.vm) m args below meth c T' (locs ++ L) (cells + rm.cells) (slots + rm.slots) → s.Since T'.vm T'.heap.size → Z.Warmed39 (s.setVm T'.vm).vm → (s.setVm T'.vm).vm.findClass own = some m.cls → Q v T'.heap L → own_Fin p.tables e below Post (T'.setTop (mkF m q Ls (v.toList ++ rest)))) : own_Fin p.tables e below Post (T.setTop (mkF m pc Ls st)) := by
  subst hst hq has
  obtain ⟨v, vm1, ⟨T', L', k', n'⟩, -, X', hS, -, ⟨Lc, hQ, l', y', z'⟩, t'⟩ := X.specialBackS hx (y := y) hy1 hown (mvT hZ w1) (mvT hZ w3) (mvT hZ wc) hy (own_backW (W := W) hM hZ hI wc wz hr.1.1 hr.1.2) (g := mkF m pc Ls (argsL.reverse ++ .ref a :: rest)) rfl hsz (Steps.refl _) (a := a) (argsL := argsL) (rest := rest) hlen rfl (Nat.le_of_eq hW) hd (fun _ _ => ⟨rfl, eT, hr.2.1, hr.2.2⟩)
  dsimp only [Pt.U, Pt.locs, Pt.cells, Pt.slots] at X' l' y' z' t' hQ hS
  subst l' y' z'
  exact own_Fin.trans t' (k v T' Lc X' hS (State.Warmed39.trans hZ hS.1) (by rw [show (s.setVm T'.vm).vm = T'.vm from rfl, hS.1.alike.findClass]; exact hown) hQ)
theorem own_fldNe {a b : Addr} {O n d : String} {v w : Value} (F : Fld Z h a O n d v) (G : Fld Z h b O n d w) (hne : v ≠ w) : @Ne Nat a b := fun q => by
  have q' : a = b := q
  subst q'
  obtain ⟨cell, cf, k, i, f, h1, h2, h3, h4, h5, h6, h7⟩ := F
  obtain ⟨cell', cf', k', i', f', g1, g2, g3, g4, g5, g6, g7⟩ := G
  cases h1.symm.trans g1
  cases h2.symm.trans g2
  exact hne (Option.some.inj (h7.symm.trans g7))
end Wide
end Jvm.RoadKit

namespace Jvm.Pilot.@@N@@
open Jvm Jvm.ClassFile Sem Op Lib Jvm.Free Jvm.Stand Jvm.LawKit Jvm.RoadKit Bundle Jvm.Pilot.@@N@@.Jvm.D
abbrev OW (a0 : Array Value) (Z : State) : Prop := ∀ d ∈ tables_1, d.before a0 Z = true
abbrev nm0 : MethodName := (⟨"java/lang/String", "coder", "()B"⟩ : MethodName)
abbrev nm1 : MethodName := (⟨"jdk/internal/util/Preconditions", "checkIndex", "(IILjava/util/function/BiFunction;)I"⟩ : MethodName)
abbrev nm2 : MethodName := (⟨"java/lang/StringUTF16", "length", "([B)I"⟩ : MethodName)
abbrev nm3 : MethodName := (⟨"java/lang/String", "checkIndex", "(II)V"⟩ : MethodName)
abbrev nm4 : MethodName := (⟨"java/lang/StringUTF16", "checkIndex", "(I[B)V"⟩ : MethodName)
abbrev nm5 : MethodName := (⟨"java/lang/StringUTF16", "getChar", "([BI)C"⟩ : MethodName)
abbrev nm6 : MethodName := (⟨"java/lang/String", "isLatin1", "()Z"⟩ : MethodName)
abbrev nm7 : MethodName := (⟨"java/lang/StringLatin1", "charAt", "([BI)C"⟩ : MethodName)
abbrev nm8 : MethodName := (⟨"java/lang/StringUTF16", "charAt", "([BI)C"⟩ : MethodName)
abbrev nm9 : MethodName := (⟨"java/lang/StringUTF16", "newBytesLength", "(I)I"⟩ : MethodName)
abbrev nm10 : MethodName := (⟨"java/lang/StringUTF16", "newBytesFor", "(I)[B"⟩ : MethodName)
abbrev nm11 : MethodName := (⟨"java/lang/StringUTF16", "putChar", "([BII)V"⟩ : MethodName)
abbrev nm12 : MethodName := (⟨"java/lang/StringUTF16", "compress", "([CI[BII)I"⟩ : MethodName)
abbrev nm13 : MethodName := (⟨"java/lang/StringUTF16", "toBytes", "([CII)[B"⟩ : MethodName)
abbrev nm14 : MethodName := (⟨"java/lang/Object", "<init>", "()V"⟩ : MethodName)
abbrev nm15 : MethodName := (⟨"java/lang/StringUTF16", "compress", "([CII)[B"⟩ : MethodName)
abbrev nm16 : MethodName := (⟨"java/lang/StringUTF16", "coderFromArrayLen", "([BI)B"⟩ : MethodName)
abbrev nm17 : MethodName := (⟨"java/lang/String", "<init>", "([CIILjava/lang/Void;)V"⟩ : MethodName)
abbrev nm18 : MethodName := (⟨"jdk/internal/util/Preconditions", "checkFromIndexSize", "(IIILjava/util/function/BiFunction;)I"⟩ : MethodName)
abbrev nm19 : MethodName := (⟨"java/lang/String", "checkBoundsOffCount", "(III)I"⟩ : MethodName)
abbrev nm20 : MethodName := (⟨"java/lang/StringLatin1", "inflate", "([BI[CII)V"⟩ : MethodName)
abbrev nm21 : MethodName := (⟨"java/lang/StringUTF16", "checkBoundsOffCount", "(II[B)V"⟩ : MethodName)
abbrev nm22 : MethodName := (⟨"java/lang/StringUTF16", "getChars", "([BII[CI)V"⟩ : MethodName)
abbrev nm23 : MethodName := (⟨"java/lang/StringLatin1", "toChars", "([B)[C"⟩ : MethodName)
abbrev nm24 : MethodName := (⟨"java/lang/StringUTF16", "toChars", "([B)[C"⟩ : MethodName)
abbrev nm25 : MethodName := (⟨"java/lang/String", "length", "()I"⟩ : MethodName)
abbrev nm26 : MethodName := (⟨"java/lang/String", "charAt", "(I)C"⟩ : MethodName)
abbrev nm27 : MethodName := (⟨"com/example/annotree/annotree/tree/AsciiCase", "lowerCase", "(C)C"⟩ : MethodName)
abbrev nm28 : MethodName := (⟨"java/lang/String", "toCharArray", "()[C"⟩ : MethodName)
abbrev nm29 : MethodName := (⟨"java/lang/String", "<init>", "([C)V"⟩ : MethodName)
abbrev nm30 : MethodName := (⟨"com/example/annotree/annotree/tree/AsciiCaseLowerCasePinLaw", "mk", "(I)C"⟩ : MethodName)
abbrev nm31 : MethodName := (⟨"com/example/annotree/annotree/tree/AsciiCase", "lowerCase", "(Ljava/lang/String;)Ljava/lang/String;"⟩ : MethodName)
abbrev nm32 : MethodName := (⟨"com/example/annotree/annotree/tree/AsciiCaseLowerCasePinLaw", "exp", "(C)C"⟩ : MethodName)
abbrev nm33 : MethodName := (⟨"com/example/annotree/annotree/tree/AsciiCaseLowerCasePinLaw", "upper", "(C)Z"⟩ : MethodName)
abbrev fl0 (Z : State) (h : Heap) (a : Addr) (v : Value) : Prop := Fld Z h a "java/lang/String" "coder" "B" v
abbrev ex1 (Z : State) (h : Heap) (a : Addr) : Prop := Exa Z h a "java/lang/String"
abbrev fl2 (Z : State) (h : Heap) (a : Addr) (v : Value) : Prop := Fld Z h a "java/lang/String" "value" "[B" v
theorem wd0 {a0 : Array Value} {Z : State} (hw : OW a0 Z) : (Jvm.Cond.methodLink "com/example/annotree/annotree/tree/AsciiCaseLowerCasePinLaw" (8 : Nat) nm30).before a0 Z = true := hw _ (List.mem_of_getElem? (i := 0) rfl)
theorem wd1 {a0 : Array Value} {Z : State} (hw : OW a0 Z) : (Jvm.Cond.static nm30).before a0 Z = true := hw _ (List.mem_of_getElem? (i := 1) rfl)
theorem wd2 {a0 : Array Value} {Z : State} (hw : OW a0 Z) : (Jvm.Cond.initialized "com/example/annotree/annotree/tree/AsciiCaseLowerCasePinLaw").before a0 Z = true := hw _ (List.mem_of_getElem? (i := 2) rfl)
theorem wd3 {a0 : Array Value} {Z : State} (hw : OW a0 Z) : (Jvm.Cond.code nm30 method_2_code (1 : Nat) (Option.some Jvm.ClassFile.FieldType.char)).before a0 Z = true := hw _ (List.mem_of_getElem? (i := 3) rfl)
theorem wd4 {a0 : Array Value} {Z : State} (hw : OW a0 Z) : (Jvm.Cond.constant "com/example/annotree/annotree/tree/AsciiCaseLowerCasePinLaw" (7 : Nat) (65536 : Int32)).before a0 Z = true := hw _ (List.mem_of_getElem? (i := 4) rfl)
theorem wd5 {a0 : Array Value} {Z : State} (hw : OW a0 Z) : (Jvm.Cond.arrayClass Jvm.ClassFile.FieldType.char).before a0 Z = true := hw _ (List.mem_of_getElem? (i := 5) rfl)
theorem wd6 {a0 : Array Value} {Z : State} (hw : OW a0 Z) : (Jvm.Cond.classLink "com/example/annotree/annotree/tree/AsciiCaseLowerCasePinLaw" (14 : Nat) "java/lang/String").before a0 Z = true := hw _ (List.mem_of_getElem? (i := 6) rfl)
theorem wd7 {a0 : Array Value} {Z : State} (hw : OW a0 Z) : (Jvm.Cond.instantiable "java/lang/String" (4 : Nat)).before a0 Z = true := hw _ (List.mem_of_getElem? (i := 7) rfl)
theorem wd8 {a0 : Array Value} {Z : State} (hw : OW a0 Z) : (Jvm.Cond.initialized "java/lang/String").before a0 Z = true := hw _ (List.mem_of_getElem? (i := 8) rfl)
theorem wd9 {a0 : Array Value} {Z : State} (hw : OW a0 Z) : (Jvm.Cond.methodLink "com/example/annotree/annotree/tree/AsciiCaseLowerCasePinLaw" (16 : Nat) nm29).before a0 Z = true := hw _ (List.mem_of_getElem? (i := 9) rfl)
theorem wd10 {a0 : Array Value} {Z : State} (hw : OW a0 Z) : (Jvm.Cond.instanceMethod nm29).before a0 Z = true := hw _ (List.mem_of_getElem? (i := 10) rfl)
theorem wd11 {a0 : Array Value} {Z : State} (hw : OW a0 Z) : (Jvm.Cond.code nm29 jdk_42_method_3_code (2 : Nat) (Option.none : Option Jvm.ClassFile.FieldType)).before a0 Z = true := hw _ (List.mem_of_getElem? (i := 11) rfl)
theorem wd12 {a0 : Array Value} {Z : State} (hw : OW a0 Z) : (Jvm.Cond.methodLink "java/lang/String" (27 : Nat) nm17).before a0 Z = true := hw _ (List.mem_of_getElem? (i := 12) rfl)
theorem wd13 {a0 : Array Value} {Z : State} (hw : OW a0 Z) : (Jvm.Cond.instanceMethod nm17).before a0 Z = true := hw _ (List.mem_of_getElem? (i := 13) rfl)
theorem wd15 {a0 : Array Value} {Z : State} (hw : OW a0 Z) : (Jvm.Cond.code nm17 jdk_42_method_149_code (6 : Nat) (Option.none : Option Jvm.ClassFile.FieldType)).before a0 Z = true := hw _ (List.mem_of_getElem? (i := 15) rfl)
theorem wd16 {a0 : Array Value} {Z : State} (hw : OW a0 Z) : (Jvm.Cond.methodLink "java/lang/String" (1 : Nat) nm14).before a0 Z = true := hw _ (List.mem_of_getElem? (i := 16) rfl)
theorem wd17 {a0 : Array Value} {Z : State} (hw : OW a0 Z) : (Jvm.Cond.instanceMethod nm14).before a0 Z = true := hw _ (List.mem_of_getElem? (i := 17) rfl)
theorem wd18 {a0 : Array Value} {Z : State} (hw : OW a0 Z) : (Jvm.Cond.code nm14 object_method_1_code (1 : Nat) (Option.none : Option Jvm.ClassFile.FieldType)).before a0 Z = true := hw _ (List.mem_of_getElem? (i := 18) rfl)
theorem wd19 {a0 : Array Value} {Z : State} (hw : OW a0 Z) : (Jvm.Cond.stringLink "java/lang/String" (7 : Nat) "").before a0 Z = true := hw _ (List.mem_of_getElem? (i := 19) rfl)
theorem wd20 {a0 : Array Value} {Z : State} (hw : OW a0 Z) : (Jvm.Cond.arrayClass Jvm.ClassFile.FieldType.byte).before a0 Z = true := hw _ (List.mem_of_getElem? (i := 20) rfl)
theorem wd21 {a0 : Array Value} {Z : State} (hw : OW a0 Z) : (Jvm.Cond.laysFinal "java/lang/String" "java/lang/String" "value" "[B").before a0 Z = true := hw _ (List.mem_of_getElem? (i := 21) rfl)
theorem wd22 {a0 : Array Value} {Z : State} (hw : OW a0 Z) : (Jvm.Cond.laysFinal "java/lang/String" "java/lang/String" "coder" "B").before a0 Z = true := hw _ (List.mem_of_getElem? (i := 22) rfl)
theorem wd25 {a0 : Array Value} {Z : State} (hw : OW a0 Z) : (Jvm.Cond.fieldLink "java/lang/String" (9 : Nat) "java/lang/String" "value" "[B").before a0 Z = true := hw _ (List.mem_of_getElem? (i := 25) rfl)
theorem wd26 {a0 : Array Value} {Z : State} (hw : OW a0 Z) : (Jvm.Cond.fieldLink "java/lang/String" (15 : Nat) "java/lang/String" "coder" "B").before a0 Z = true := hw _ (List.mem_of_getElem? (i := 26) rfl)
theorem wd27 {a0 : Array Value} {Z : State} (hw : OW a0 Z) : (Jvm.Cond.methodLink "com/example/annotree/annotree/tree/AsciiCaseLowerCasePinLaw" (19 : Nat) nm31).before a0 Z = true := hw _ (List.mem_of_getElem? (i := 27) rfl)
theorem wd28 {a0 : Array Value} {Z : State} (hw : OW a0 Z) : (Jvm.Cond.static nm31).before a0 Z = true := hw _ (List.mem_of_getElem? (i := 28) rfl)
theorem wd29 {a0 : Array Value} {Z : State} (hw : OW a0 Z) : (Jvm.Cond.initialized "com/example/annotree/annotree/tree/AsciiCase").before a0 Z = true := hw _ (List.mem_of_getElem? (i := 29) rfl)
theorem wd30 {a0 : Array Value} {Z : State} (hw : OW a0 Z) : (Jvm.Cond.code nm31 prog_14_method_2_code (4 : Nat) (Option.some (Jvm.ClassFile.FieldType.object "java/lang/String"))).before a0 Z = true := hw _ (List.mem_of_getElem? (i := 30) rfl)
theorem wd31 {a0 : Array Value} {Z : State} (hw : OW a0 Z) : (Jvm.Cond.methodLink "com/example/annotree/annotree/tree/AsciiCase" (7 : Nat) nm25).before a0 Z = true := hw _ (List.mem_of_getElem? (i := 31) rfl)
theorem wd32 {a0 : Array Value} {Z : State} (hw : OW a0 Z) : (Jvm.Cond.declares nm25).before a0 Z = true := hw _ (List.mem_of_getElem? (i := 32) rfl)
theorem wd33 {a0 : Array Value} {Z : State} (hw : OW a0 Z) : (Jvm.Cond.instanceMethod nm25).before a0 Z = true := hw _ (List.mem_of_getElem? (i := 33) rfl)
theorem wd34 {a0 : Array Value} {Z : State} (hw : OW a0 Z) : (Jvm.Cond.selects "java/lang/String" nm25 nm25).before a0 Z = true := hw _ (List.mem_of_getElem? (i := 34) rfl)
theorem wd35 {a0 : Array Value} {Z : State} (hw : OW a0 Z) : (Jvm.Cond.code nm25 jdk_42_method_54_code (1 : Nat) (Option.some Jvm.ClassFile.FieldType.int)).before a0 Z = true := hw _ (List.mem_of_getElem? (i := 35) rfl)
theorem wd36 {a0 : Array Value} {Z : State} (hw : OW a0 Z) : (Jvm.Cond.methodLink "java/lang/String" (335 : Nat) nm0).before a0 Z = true := hw _ (List.mem_of_getElem? (i := 36) rfl)
theorem wd37 {a0 : Array Value} {Z : State} (hw : OW a0 Z) : (Jvm.Cond.declares nm0).before a0 Z = true := hw _ (List.mem_of_getElem? (i := 37) rfl)
theorem wd38 {a0 : Array Value} {Z : State} (hw : OW a0 Z) : (Jvm.Cond.instanceMethod nm0).before a0 Z = true := hw _ (List.mem_of_getElem? (i := 38) rfl)
theorem wd39 {a0 : Array Value} {Z : State} (hw : OW a0 Z) : (Jvm.Cond.selects "java/lang/String" nm0 nm0).before a0 Z = true := hw _ (List.mem_of_getElem? (i := 39) rfl)
theorem wd40 {a0 : Array Value} {Z : State} (hw : OW a0 Z) : (Jvm.Cond.code nm0 jdk_42_method_152_code (1 : Nat) (Option.some Jvm.ClassFile.FieldType.byte)).before a0 Z = true := hw _ (List.mem_of_getElem? (i := 40) rfl)
theorem wd41 {a0 : Array Value} {Z : State} (hw : OW a0 Z) : (Jvm.Cond.fieldLink "java/lang/String" (38 : Nat) "java/lang/String" "COMPACT_STRINGS" "Z").before a0 Z = true := hw _ (List.mem_of_getElem? (i := 41) rfl)
theorem wd42 {a0 : Array Value} {Z : State} (hw : OW a0 Z) : (Jvm.Cond.methodLink "com/example/annotree/annotree/tree/AsciiCaseLowerCasePinLaw" (25 : Nat) nm25).before a0 Z = true := hw _ (List.mem_of_getElem? (i := 42) rfl)
theorem wd43 {a0 : Array Value} {Z : State} (hw : OW a0 Z) : (Jvm.Cond.methodLink "java/lang/String" (177 : Nat) nm15).before a0 Z = true := hw _ (List.mem_of_getElem? (i := 43) rfl)
theorem wd44 {a0 : Array Value} {Z : State} (hw : OW a0 Z) : (Jvm.Cond.static nm15).before a0 Z = true := hw _ (List.mem_of_getElem? (i := 44) rfl)
theorem wd45 {a0 : Array Value} {Z : State} (hw : OW a0 Z) : (Jvm.Cond.initialized "java/lang/StringUTF16").before a0 Z = true := hw _ (List.mem_of_getElem? (i := 45) rfl)
theorem wd46 {a0 : Array Value} {Z : State} (hw : OW a0 Z) : (Jvm.Cond.code nm15 jdk_52_method_16_code (6 : Nat) (Option.some (Jvm.ClassFile.FieldType.array Jvm.ClassFile.FieldType.byte))).before a0 Z = true := hw _ (List.mem_of_getElem? (i := 46) rfl)
theorem wd47 {a0 : Array Value} {Z : State} (hw : OW a0 Z) : (Jvm.Cond.methodLink "java/lang/StringUTF16" (115 : Nat) nm12).before a0 Z = true := hw _ (List.mem_of_getElem? (i := 47) rfl)
theorem wd48 {a0 : Array Value} {Z : State} (hw : OW a0 Z) : (Jvm.Cond.static nm12).before a0 Z = true := hw _ (List.mem_of_getElem? (i := 48) rfl)
theorem wd49 {a0 : Array Value} {Z : State} (hw : OW a0 Z) : (Jvm.Cond.code nm12 jdk_52_method_21_code (7 : Nat) (Option.some Jvm.ClassFile.FieldType.int)).before a0 Z = true := hw _ (List.mem_of_getElem? (i := 49) rfl)
theorem wd50 {a0 : Array Value} {Z : State} (hw : OW a0 Z) : (Jvm.Cond.methodLink "java/lang/String" (47 : Nat) nm16).before a0 Z = true := hw _ (List.mem_of_getElem? (i := 50) rfl)
theorem wd51 {a0 : Array Value} {Z : State} (hw : OW a0 Z) : (Jvm.Cond.static nm16).before a0 Z = true := hw _ (List.mem_of_getElem? (i := 51) rfl)
theorem wd52 {a0 : Array Value} {Z : State} (hw : OW a0 Z) : (Jvm.Cond.code nm16 jdk_52_method_15_code (2 : Nat) (Option.some Jvm.ClassFile.FieldType.byte)).before a0 Z = true := hw _ (List.mem_of_getElem? (i := 52) rfl)
theorem wd53 {a0 : Array Value} {Z : State} (hw : OW a0 Z) : (Jvm.Cond.methodLink "com/example/annotree/annotree/tree/AsciiCase" (13 : Nat) nm26).before a0 Z = true := hw _ (List.mem_of_getElem? (i := 53) rfl)
theorem wd54 {a0 : Array Value} {Z : State} (hw : OW a0 Z) : (Jvm.Cond.declares nm26).before a0 Z = true := hw _ (List.mem_of_getElem? (i := 54) rfl)
theorem wd55 {a0 : Array Value} {Z : State} (hw : OW a0 Z) : (Jvm.Cond.instanceMethod nm26).before a0 Z = true := hw _ (List.mem_of_getElem? (i := 55) rfl)
theorem wd56 {a0 : Array Value} {Z : State} (hw : OW a0 Z) : (Jvm.Cond.selects "java/lang/String" nm26 nm26).before a0 Z = true := hw _ (List.mem_of_getElem? (i := 56) rfl)
theorem wd57 {a0 : Array Value} {Z : State} (hw : OW a0 Z) : (Jvm.Cond.code nm26 jdk_42_method_56_code (2 : Nat) (Option.some Jvm.ClassFile.FieldType.char)).before a0 Z = true := hw _ (List.mem_of_getElem? (i := 57) rfl)
theorem wd58 {a0 : Array Value} {Z : State} (hw : OW a0 Z) : (Jvm.Cond.methodLink "java/lang/String" (492 : Nat) nm6).before a0 Z = true := hw _ (List.mem_of_getElem? (i := 58) rfl)
theorem wd59 {a0 : Array Value} {Z : State} (hw : OW a0 Z) : (Jvm.Cond.declares nm6).before a0 Z = true := hw _ (List.mem_of_getElem? (i := 59) rfl)
theorem wd60 {a0 : Array Value} {Z : State} (hw : OW a0 Z) : (Jvm.Cond.instanceMethod nm6).before a0 Z = true := hw _ (List.mem_of_getElem? (i := 60) rfl)
theorem wd61 {a0 : Array Value} {Z : State} (hw : OW a0 Z) : (Jvm.Cond.selects "java/lang/String" nm6 nm6).before a0 Z = true := hw _ (List.mem_of_getElem? (i := 61) rfl)
theorem wd62 {a0 : Array Value} {Z : State} (hw : OW a0 Z) : (Jvm.Cond.code nm6 jdk_42_method_154_code (1 : Nat) (Option.some Jvm.ClassFile.FieldType.boolean)).before a0 Z = true := hw _ (List.mem_of_getElem? (i := 62) rfl)
theorem wd63 {a0 : Array Value} {Z : State} (hw : OW a0 Z) : (Jvm.Cond.methodLink "java/lang/String" (495 : Nat) nm7).before a0 Z = true := hw _ (List.mem_of_getElem? (i := 63) rfl)
theorem wd64 {a0 : Array Value} {Z : State} (hw : OW a0 Z) : (Jvm.Cond.static nm7).before a0 Z = true := hw _ (List.mem_of_getElem? (i := 64) rfl)
theorem wd65 {a0 : Array Value} {Z : State} (hw : OW a0 Z) : (Jvm.Cond.initialized "java/lang/StringLatin1").before a0 Z = true := hw _ (List.mem_of_getElem? (i := 65) rfl)
theorem wd66 {a0 : Array Value} {Z : State} (hw : OW a0 Z) : (Jvm.Cond.code nm7 jdk_43_method_2_code (2 : Nat) (Option.some Jvm.ClassFile.FieldType.char)).before a0 Z = true := hw _ (List.mem_of_getElem? (i := 66) rfl)
theorem wd67 {a0 : Array Value} {Z : State} (hw : OW a0 Z) : (Jvm.Cond.methodLink "java/lang/StringLatin1" (9 : Nat) nm3).before a0 Z = true := hw _ (List.mem_of_getElem? (i := 67) rfl)
theorem wd68 {a0 : Array Value} {Z : State} (hw : OW a0 Z) : (Jvm.Cond.static nm3).before a0 Z = true := hw _ (List.mem_of_getElem? (i := 68) rfl)
theorem wd69 {a0 : Array Value} {Z : State} (hw : OW a0 Z) : (Jvm.Cond.code nm3 jdk_42_method_155_code (2 : Nat) (Option.none : Option Jvm.ClassFile.FieldType)).before a0 Z = true := hw _ (List.mem_of_getElem? (i := 69) rfl)
theorem wd70 {a0 : Array Value} {Z : State} (hw : OW a0 Z) : (Jvm.Cond.fieldLink "java/lang/String" (1053 : Nat) "jdk/internal/util/Preconditions" "SIOOBE_FORMATTER" "Ljava/util/function/BiFunction;").before a0 Z = true := hw _ (List.mem_of_getElem? (i := 70) rfl)
theorem wd71 {a0 : Array Value} {Z : State} (hw : OW a0 Z) : (Jvm.Cond.initialized "jdk/internal/util/Preconditions").before a0 Z = true := hw _ (List.mem_of_getElem? (i := 71) rfl)
theorem wd72 {a0 : Array Value} {Z : State} (hw : OW a0 Z) : (Jvm.Cond.methodLink "java/lang/String" (1059 : Nat) nm1).before a0 Z = true := hw _ (List.mem_of_getElem? (i := 72) rfl)
theorem wd73 {a0 : Array Value} {Z : State} (hw : OW a0 Z) : (Jvm.Cond.static nm1).before a0 Z = true := hw _ (List.mem_of_getElem? (i := 73) rfl)
theorem wd74 {a0 : Array Value} {Z : State} (hw : OW a0 Z) : (Jvm.Cond.code nm1 jdk_41_method_11_code (3 : Nat) (Option.some Jvm.ClassFile.FieldType.int)).before a0 Z = true := hw _ (List.mem_of_getElem? (i := 74) rfl)
theorem wd75 {a0 : Array Value} {Z : State} (hw : OW a0 Z) : (Jvm.Cond.methodLink "com/example/annotree/annotree/tree/AsciiCase" (17 : Nat) nm27).before a0 Z = true := hw _ (List.mem_of_getElem? (i := 75) rfl)
theorem wd76 {a0 : Array Value} {Z : State} (hw : OW a0 Z) : (Jvm.Cond.static nm27).before a0 Z = true := hw _ (List.mem_of_getElem? (i := 76) rfl)
theorem wd77 {a0 : Array Value} {Z : State} (hw : OW a0 Z) : (Jvm.Cond.code nm27 prog_14_method_3_code (1 : Nat) (Option.some Jvm.ClassFile.FieldType.char)).before a0 Z = true := hw _ (List.mem_of_getElem? (i := 77) rfl)
theorem wd78 {a0 : Array Value} {Z : State} (hw : OW a0 Z) : (Jvm.Cond.methodLink "com/example/annotree/annotree/tree/AsciiCaseLowerCasePinLaw" (29 : Nat) nm26).before a0 Z = true := hw _ (List.mem_of_getElem? (i := 78) rfl)
theorem wd79 {a0 : Array Value} {Z : State} (hw : OW a0 Z) : (Jvm.Cond.methodLink "com/example/annotree/annotree/tree/AsciiCaseLowerCasePinLaw" (32 : Nat) nm32).before a0 Z = true := hw _ (List.mem_of_getElem? (i := 79) rfl)
theorem wd80 {a0 : Array Value} {Z : State} (hw : OW a0 Z) : (Jvm.Cond.static nm32).before a0 Z = true := hw _ (List.mem_of_getElem? (i := 80) rfl)
theorem wd81 {a0 : Array Value} {Z : State} (hw : OW a0 Z) : (Jvm.Cond.code nm32 method_4_code (2 : Nat) (Option.some Jvm.ClassFile.FieldType.char)).before a0 Z = true := hw _ (List.mem_of_getElem? (i := 81) rfl)
theorem wd82 {a0 : Array Value} {Z : State} (hw : OW a0 Z) : (Jvm.Cond.methodLink "com/example/annotree/annotree/tree/AsciiCaseLowerCasePinLaw" (36 : Nat) nm33).before a0 Z = true := hw _ (List.mem_of_getElem? (i := 82) rfl)
theorem wd83 {a0 : Array Value} {Z : State} (hw : OW a0 Z) : (Jvm.Cond.static nm33).before a0 Z = true := hw _ (List.mem_of_getElem? (i := 83) rfl)
theorem wd84 {a0 : Array Value} {Z : State} (hw : OW a0 Z) : (Jvm.Cond.code nm33 method_3_code (1 : Nat) (Option.some Jvm.ClassFile.FieldType.boolean)).before a0 Z = true := hw _ (List.mem_of_getElem? (i := 84) rfl)
theorem wd85 {a0 : Array Value} {Z : State} (hw : OW a0 Z) : (Jvm.Cond.methodLink "com/example/annotree/annotree/tree/AsciiCase" (23 : Nat) nm28).before a0 Z = true := hw _ (List.mem_of_getElem? (i := 85) rfl)
theorem wd86 {a0 : Array Value} {Z : State} (hw : OW a0 Z) : (Jvm.Cond.declares nm28).before a0 Z = true := hw _ (List.mem_of_getElem? (i := 86) rfl)
theorem wd87 {a0 : Array Value} {Z : State} (hw : OW a0 Z) : (Jvm.Cond.instanceMethod nm28).before a0 Z = true := hw _ (List.mem_of_getElem? (i := 87) rfl)
theorem wd88 {a0 : Array Value} {Z : State} (hw : OW a0 Z) : (Jvm.Cond.selects "java/lang/String" nm28 nm28).before a0 Z = true := hw _ (List.mem_of_getElem? (i := 88) rfl)
theorem wd89 {a0 : Array Value} {Z : State} (hw : OW a0 Z) : (Jvm.Cond.code nm28 jdk_42_method_129_code (1 : Nat) (Option.some (Jvm.ClassFile.FieldType.array Jvm.ClassFile.FieldType.char))).before a0 Z = true := hw _ (List.mem_of_getElem? (i := 89) rfl)
theorem wd90 {a0 : Array Value} {Z : State} (hw : OW a0 Z) : (Jvm.Cond.methodLink "java/lang/String" (299 : Nat) nm23).before a0 Z = true := hw _ (List.mem_of_getElem? (i := 90) rfl)
theorem wd91 {a0 : Array Value} {Z : State} (hw : OW a0 Z) : (Jvm.Cond.static nm23).before a0 Z = true := hw _ (List.mem_of_getElem? (i := 91) rfl)
theorem wd92 {a0 : Array Value} {Z : State} (hw : OW a0 Z) : (Jvm.Cond.code nm23 jdk_43_method_9_code (2 : Nat) (Option.some (Jvm.ClassFile.FieldType.array Jvm.ClassFile.FieldType.char))).before a0 Z = true := hw _ (List.mem_of_getElem? (i := 92) rfl)
theorem wd93 {a0 : Array Value} {Z : State} (hw : OW a0 Z) : (Jvm.Cond.methodLink "java/lang/StringLatin1" (13 : Nat) nm20).before a0 Z = true := hw _ (List.mem_of_getElem? (i := 93) rfl)
theorem wd94 {a0 : Array Value} {Z : State} (hw : OW a0 Z) : (Jvm.Cond.static nm20).before a0 Z = true := hw _ (List.mem_of_getElem? (i := 94) rfl)
theorem wd95 {a0 : Array Value} {Z : State} (hw : OW a0 Z) : (Jvm.Cond.code nm20 jdk_43_method_49_code (6 : Nat) (Option.none : Option Jvm.ClassFile.FieldType)).before a0 Z = true := hw _ (List.mem_of_getElem? (i := 95) rfl)
theorem wd96 {a0 : Array Value} {Z : State} (hw : OW a0 Z) : (Jvm.Cond.classLink "com/example/annotree/annotree/tree/AsciiCase" (8 : Nat) "java/lang/String").before a0 Z = true := hw _ (List.mem_of_getElem? (i := 96) rfl)
theorem wd97 {a0 : Array Value} {Z : State} (hw : OW a0 Z) : (Jvm.Cond.methodLink "com/example/annotree/annotree/tree/AsciiCase" (27 : Nat) nm29).before a0 Z = true := hw _ (List.mem_of_getElem? (i := 97) rfl)
theorem wd98 {a0 : Array Value} {Z : State} (hw : OW a0 Z) : (Jvm.Cond.methodLink "java/lang/StringUTF16" (119 : Nat) nm13).before a0 Z = true := hw _ (List.mem_of_getElem? (i := 98) rfl)
theorem wd99 {a0 : Array Value} {Z : State} (hw : OW a0 Z) : (Jvm.Cond.static nm13).before a0 Z = true := hw _ (List.mem_of_getElem? (i := 99) rfl)
theorem wd100 {a0 : Array Value} {Z : State} (hw : OW a0 Z) : (Jvm.Cond.code nm13 jdk_52_method_14_code (5 : Nat) (Option.some (Jvm.ClassFile.FieldType.array Jvm.ClassFile.FieldType.byte))).before a0 Z = true := hw _ (List.mem_of_getElem? (i := 100) rfl)
theorem wd101 {a0 : Array Value} {Z : State} (hw : OW a0 Z) : (Jvm.Cond.methodLink "java/lang/StringUTF16" (107 : Nat) nm10).before a0 Z = true := hw _ (List.mem_of_getElem? (i := 101) rfl)
theorem wd102 {a0 : Array Value} {Z : State} (hw : OW a0 Z) : (Jvm.Cond.static nm10).before a0 Z = true := hw _ (List.mem_of_getElem? (i := 102) rfl)
theorem wd103 {a0 : Array Value} {Z : State} (hw : OW a0 Z) : (Jvm.Cond.code nm10 jdk_52_method_2_code (1 : Nat) (Option.some (Jvm.ClassFile.FieldType.array Jvm.ClassFile.FieldType.byte))).before a0 Z = true := hw _ (List.mem_of_getElem? (i := 103) rfl)
theorem wd104 {a0 : Array Value} {Z : State} (hw : OW a0 Z) : (Jvm.Cond.methodLink "java/lang/StringUTF16" (11 : Nat) nm9).before a0 Z = true := hw _ (List.mem_of_getElem? (i := 104) rfl)
theorem wd105 {a0 : Array Value} {Z : State} (hw : OW a0 Z) : (Jvm.Cond.static nm9).before a0 Z = true := hw _ (List.mem_of_getElem? (i := 105) rfl)
theorem wd106 {a0 : Array Value} {Z : State} (hw : OW a0 Z) : (Jvm.Cond.code nm9 jdk_52_method_3_code (1 : Nat) (Option.some Jvm.ClassFile.FieldType.int)).before a0 Z = true := hw _ (List.mem_of_getElem? (i := 106) rfl)
theorem wd107 {a0 : Array Value} {Z : State} (hw : OW a0 Z) : (Jvm.Cond.constant "java/lang/StringUTF16" (20 : Nat) (1073741823 : Int32)).before a0 Z = true := hw _ (List.mem_of_getElem? (i := 107) rfl)
theorem wd108 {a0 : Array Value} {Z : State} (hw : OW a0 Z) : (Jvm.Cond.methodLink "java/lang/StringUTF16" (111 : Nat) nm11).before a0 Z = true := hw _ (List.mem_of_getElem? (i := 108) rfl)
theorem wd109 {a0 : Array Value} {Z : State} (hw : OW a0 Z) : (Jvm.Cond.static nm11).before a0 Z = true := hw _ (List.mem_of_getElem? (i := 109) rfl)
theorem wd110 {a0 : Array Value} {Z : State} (hw : OW a0 Z) : (Jvm.Cond.code nm11 jdk_52_method_4_code (3 : Nat) (Option.none : Option Jvm.ClassFile.FieldType)).before a0 Z = true := hw _ (List.mem_of_getElem? (i := 110) rfl)
theorem wd111 {a0 : Array Value} {Z : State} (hw : OW a0 Z) : (Jvm.Cond.fieldLink "java/lang/StringUTF16" (44 : Nat) "java/lang/StringUTF16" "$assertionsDisabled" "Z").before a0 Z = true := hw _ (List.mem_of_getElem? (i := 111) rfl)
theorem wd112 {a0 : Array Value} {Z : State} (hw : OW a0 Z) : (Jvm.Cond.fieldLink "java/lang/StringUTF16" (59 : Nat) "java/lang/StringUTF16" "HI_BYTE_SHIFT" "I").before a0 Z = true := hw _ (List.mem_of_getElem? (i := 112) rfl)
theorem wd113 {a0 : Array Value} {Z : State} (hw : OW a0 Z) : (Jvm.Cond.fieldLink "java/lang/StringUTF16" (63 : Nat) "java/lang/StringUTF16" "LO_BYTE_SHIFT" "I").before a0 Z = true := hw _ (List.mem_of_getElem? (i := 113) rfl)
theorem wd114 {a0 : Array Value} {Z : State} (hw : OW a0 Z) : (Jvm.Cond.methodLink "java/lang/StringUTF16" (71 : Nat) nm5).before a0 Z = true := hw _ (List.mem_of_getElem? (i := 114) rfl)
theorem wd115 {a0 : Array Value} {Z : State} (hw : OW a0 Z) : (Jvm.Cond.static nm5).before a0 Z = true := hw _ (List.mem_of_getElem? (i := 115) rfl)
theorem wd116 {a0 : Array Value} {Z : State} (hw : OW a0 Z) : (Jvm.Cond.code nm5 jdk_52_method_5_code (2 : Nat) (Option.some Jvm.ClassFile.FieldType.char)).before a0 Z = true := hw _ (List.mem_of_getElem? (i := 116) rfl)
theorem wd117 {a0 : Array Value} {Z : State} (hw : OW a0 Z) : (Jvm.Cond.methodLink "java/lang/String" (498 : Nat) nm8).before a0 Z = true := hw _ (List.mem_of_getElem? (i := 117) rfl)
theorem wd118 {a0 : Array Value} {Z : State} (hw : OW a0 Z) : (Jvm.Cond.static nm8).before a0 Z = true := hw _ (List.mem_of_getElem? (i := 118) rfl)
theorem wd119 {a0 : Array Value} {Z : State} (hw : OW a0 Z) : (Jvm.Cond.code nm8 jdk_52_method_83_code (2 : Nat) (Option.some Jvm.ClassFile.FieldType.char)).before a0 Z = true := hw _ (List.mem_of_getElem? (i := 119) rfl)
theorem wd120 {a0 : Array Value} {Z : State} (hw : OW a0 Z) : (Jvm.Cond.methodLink "java/lang/StringUTF16" (67 : Nat) nm4).before a0 Z = true := hw _ (List.mem_of_getElem? (i := 120) rfl)
theorem wd121 {a0 : Array Value} {Z : State} (hw : OW a0 Z) : (Jvm.Cond.static nm4).before a0 Z = true := hw _ (List.mem_of_getElem? (i := 121) rfl)
theorem wd122 {a0 : Array Value} {Z : State} (hw : OW a0 Z) : (Jvm.Cond.code nm4 jdk_52_method_91_code (2 : Nat) (Option.none : Option Jvm.ClassFile.FieldType)).before a0 Z = true := hw _ (List.mem_of_getElem? (i := 122) rfl)
theorem wd123 {a0 : Array Value} {Z : State} (hw : OW a0 Z) : (Jvm.Cond.methodLink "java/lang/StringUTF16" (48 : Nat) nm2).before a0 Z = true := hw _ (List.mem_of_getElem? (i := 123) rfl)
theorem wd124 {a0 : Array Value} {Z : State} (hw : OW a0 Z) : (Jvm.Cond.static nm2).before a0 Z = true := hw _ (List.mem_of_getElem? (i := 124) rfl)
theorem wd125 {a0 : Array Value} {Z : State} (hw : OW a0 Z) : (Jvm.Cond.code nm2 jdk_52_method_6_code (1 : Nat) (Option.some Jvm.ClassFile.FieldType.int)).before a0 Z = true := hw _ (List.mem_of_getElem? (i := 125) rfl)
theorem wd126 {a0 : Array Value} {Z : State} (hw : OW a0 Z) : (Jvm.Cond.methodLink "java/lang/StringUTF16" (414 : Nat) nm3).before a0 Z = true := hw _ (List.mem_of_getElem? (i := 126) rfl)
theorem wd127 {a0 : Array Value} {Z : State} (hw : OW a0 Z) : (Jvm.Cond.methodLink "java/lang/String" (303 : Nat) nm24).before a0 Z = true := hw _ (List.mem_of_getElem? (i := 127) rfl)
theorem wd128 {a0 : Array Value} {Z : State} (hw : OW a0 Z) : (Jvm.Cond.static nm24).before a0 Z = true := hw _ (List.mem_of_getElem? (i := 128) rfl)
theorem wd129 {a0 : Array Value} {Z : State} (hw : OW a0 Z) : (Jvm.Cond.code nm24 jdk_52_method_13_code (2 : Nat) (Option.some (Jvm.ClassFile.FieldType.array Jvm.ClassFile.FieldType.char))).before a0 Z = true := hw _ (List.mem_of_getElem? (i := 129) rfl)
theorem wd130 {a0 : Array Value} {Z : State} (hw : OW a0 Z) : (Jvm.Cond.methodLink "java/lang/StringUTF16" (103 : Nat) nm22).before a0 Z = true := hw _ (List.mem_of_getElem? (i := 130) rfl)
theorem wd131 {a0 : Array Value} {Z : State} (hw : OW a0 Z) : (Jvm.Cond.static nm22).before a0 Z = true := hw _ (List.mem_of_getElem? (i := 131) rfl)
theorem wd132 {a0 : Array Value} {Z : State} (hw : OW a0 Z) : (Jvm.Cond.code nm22 jdk_52_method_26_code (6 : Nat) (Option.none : Option Jvm.ClassFile.FieldType)).before a0 Z = true := hw _ (List.mem_of_getElem? (i := 132) rfl)
theorem wd133 {a0 : Array Value} {Z : State} (hw : OW a0 Z) : (Jvm.Cond.methodLink "java/lang/StringUTF16" (173 : Nat) nm21).before a0 Z = true := hw _ (List.mem_of_getElem? (i := 133) rfl)
theorem wd134 {a0 : Array Value} {Z : State} (hw : OW a0 Z) : (Jvm.Cond.static nm21).before a0 Z = true := hw _ (List.mem_of_getElem? (i := 134) rfl)
theorem wd135 {a0 : Array Value} {Z : State} (hw : OW a0 Z) : (Jvm.Cond.code nm21 jdk_52_method_94_code (3 : Nat) (Option.none : Option Jvm.ClassFile.FieldType)).before a0 Z = true := hw _ (List.mem_of_getElem? (i := 135) rfl)
theorem wd136 {a0 : Array Value} {Z : State} (hw : OW a0 Z) : (Jvm.Cond.methodLink "java/lang/StringUTF16" (419 : Nat) nm19).before a0 Z = true := hw _ (List.mem_of_getElem? (i := 136) rfl)
theorem wd137 {a0 : Array Value} {Z : State} (hw : OW a0 Z) : (Jvm.Cond.static nm19).before a0 Z = true := hw _ (List.mem_of_getElem? (i := 137) rfl)
theorem wd138 {a0 : Array Value} {Z : State} (hw : OW a0 Z) : (Jvm.Cond.code nm19 jdk_42_method_157_code (3 : Nat) (Option.some Jvm.ClassFile.FieldType.int)).before a0 Z = true := hw _ (List.mem_of_getElem? (i := 138) rfl)
theorem wd139 {a0 : Array Value} {Z : State} (hw : OW a0 Z) : (Jvm.Cond.methodLink "java/lang/String" (1065 : Nat) nm18).before a0 Z = true := hw _ (List.mem_of_getElem? (i := 139) rfl)
theorem wd140 {a0 : Array Value} {Z : State} (hw : OW a0 Z) : (Jvm.Cond.static nm18).before a0 Z = true := hw _ (List.mem_of_getElem? (i := 140) rfl)
theorem wd141 {a0 : Array Value} {Z : State} (hw : OW a0 Z) : (Jvm.Cond.code nm18 jdk_41_method_13_code (4 : Nat) (Option.some Jvm.ClassFile.FieldType.int)).before a0 Z = true := hw _ (List.mem_of_getElem? (i := 141) rfl)
theorem own_irem (a r : Int32) : (a - (a / r) * r) = a % r := irem_eq_mod a r
theorem own_rem {q r : Int32} (k : Int) (hk : r.toInt = k) (h0 : 0 < k) {v : Int32} (hv : v = ((q &&& (2147483647 : Int32)) - ((q &&& (2147483647 : Int32)) / r) * r)) : 0 ≤ v.toInt ∧ v.toInt < k := by
  have h1 := c_mask q 2147483647 31 (by decide) (by decide)
  have e : v = (q &&& (2147483647 : Int32)) % r := by
    rw [hv]; exact own_irem _ _
  have h2 := c_irem (q &&& (2147483647 : Int32)) r k hk
  rw [← e] at h2
  have h3 : 0 ≤ (q &&& (2147483647 : Int32)).toInt := by omega
  rw [h2.1 h3]
  exact ⟨Int.emod_nonneg _ (by omega), Int.emod_lt_of_pos _ h0⟩
theorem own_lit {v : Int32} (n : Int32) (h : v.toInt = n.toInt) : v = n := Int32.toInt_inj.mp h
def Amb (Z : State) (G1 : Int32) (G2 : Value) : Prop := Sta Z Z.heap "java/lang/String" "COMPACT_STRINGS" "Z" (.int G1) ∧ Sta Z Z.heap "jdk/internal/util/Preconditions" "SIOOBE_FORMATTER" "Ljava/util/function/BiFunction;" G2 ∧ Sta Z Z.heap "java/lang/StringUTF16" "$assertionsDisabled" "Z" (.int (1 : Int32)) ∧ Sta Z Z.heap "java/lang/StringUTF16" "HI_BYTE_SHIFT" "I" (.int (0 : Int32)) ∧ Sta Z Z.heap "java/lang/StringUTF16" "LO_BYTE_SHIFT" "I" (.int (8 : Int32)) ∧ (¬ (G1 = (0 : Int32))) ∧ (G2.isRef = true) ∧ (Jvm.Lit.compactW.before #[] Z = true) ∧ (Jvm.Lit.constHeld Z "java/lang/String" 7) ∧ True
theorem Amb.a0 {Z : State} {G1 : Int32} {G2 : Value} (A : Amb Z G1 G2) : Sta Z Z.heap "java/lang/String" "COMPACT_STRINGS" "Z" (.int G1) := A.1
theorem Amb.a1 {Z : State} {G1 : Int32} {G2 : Value} (A : Amb Z G1 G2) : Sta Z Z.heap "jdk/internal/util/Preconditions" "SIOOBE_FORMATTER" "Ljava/util/function/BiFunction;" G2 := A.2.1
theorem Amb.a2 {Z : State} {G1 : Int32} {G2 : Value} (A : Amb Z G1 G2) : Sta Z Z.heap "java/lang/StringUTF16" "$assertionsDisabled" "Z" (.int (1 : Int32)) := A.2.2.1
theorem Amb.a3 {Z : State} {G1 : Int32} {G2 : Value} (A : Amb Z G1 G2) : Sta Z Z.heap "java/lang/StringUTF16" "HI_BYTE_SHIFT" "I" (.int (0 : Int32)) := A.2.2.2.1
theorem Amb.a4 {Z : State} {G1 : Int32} {G2 : Value} (A : Amb Z G1 G2) : Sta Z Z.heap "java/lang/StringUTF16" "LO_BYTE_SHIFT" "I" (.int (8 : Int32)) := A.2.2.2.2.1
theorem Amb.g1 {Z : State} {G1 : Int32} {G2 : Value} (A : Amb Z G1 G2) : ¬ (G1 = (0 : Int32)) := A.2.2.2.2.2.1
theorem Amb.g2 {Z : State} {G1 : Int32} {G2 : Value} (A : Amb Z G1 G2) : G2.isRef = true := A.2.2.2.2.2.2.1
theorem Amb.cw {Z : State} {G1 : Int32} {G2 : Value} (A : Amb Z G1 G2) : Jvm.Lit.compactW.before #[] Z = true := A.2.2.2.2.2.2.2.1
theorem Amb.held {Z : State} {G1 : Int32} {G2 : Value} (A : Amb Z G1 G2) : Jvm.Lit.constHeld Z "java/lang/String" 7 := A.2.2.2.2.2.2.2.2.1

def own_b8 (q : Int32) : Int32 := nar .byte (q.toInt8.toInt32)
def own_e0 (q : Int32) : Int32 := nar .byte ((q >>> ((0 : Int32) &&& 31)).toInt8.toInt32)
def own_e1 (q : Int32) : Int32 := nar .byte ((q >>> ((8 : Int32) &&& 31)).toInt8.toInt32)
def own_lc (y : Int32) : Int32 := nar .char ((y &&& (255 : Int32)).toUInt32.toUInt16.toUInt32.toInt32)
def own_u (y0 y1 : Int32) : Int32 := nar .char ((((y0 &&& (255 : Int32)) <<< ((0 : Int32) &&& 31)) ||| ((y1 &&& (255 : Int32)) <<< ((8 : Int32) &&& 31))).toUInt32.toUInt16.toUInt32.toInt32)
def own_cl8 (a : Nat) : Bool := let c := Int32.ofNat a; own_lc (own_b8 c) == c
theorem own_clA : ∀ a : Fin 256, own_cl8 a.val = true := by decide +kernel
def own_ch (c : Int32) : Prop := 0 ≤ c.toInt ∧ c.toInt < 65536
theorem own_lo8 {c z : Int32} (k : Nat) (hz : z.toInt = c.toInt / (2 ^ k : Nat)) : (nar .byte (z.toInt8.toInt32) &&& (255 : Int32)).toInt = c.toInt / (2 ^ k : Nat) % 256 := by
  have h1 := c_i2b z
  have h2 := c_i2b z.toInt8.toInt32
  have h3 := c_mask (nar .byte (z.toInt8.toInt32)) 255 8 (by decide) (by decide)
  have e : nar .byte (z.toInt8.toInt32) = z.toInt8.toInt32.toInt8.toInt32 := rfl
  rw [h3, e, ← hz]
  have e2 : ((2 ^ 8 : Nat) : Int) = 256 := rfl
  rw [e2]
  omega
theorem own_c16 {x : Int32} (h : 0 ≤ x.toInt ∧ x.toInt < 65536) : nar .char (x.toUInt32.toUInt16.toUInt32.toInt32) = x := by
  have h1 := c_i2c x
  have h2 := c_i2c x.toUInt32.toUInt16.toUInt32.toInt32
  show x.toUInt32.toUInt16.toUInt32.toInt32.toUInt32.toUInt16.toUInt32.toInt32 = x
  apply Int32.toInt_inj.mp
  omega
theorem own_uOk {c : Int32} (h : own_ch c) : own_u (own_e0 c) (own_e1 c) = c := by
  obtain ⟨h0, h1⟩ := h
  have a1 := own_lo8 (c := c) 0 (c_ishr c 0 0 (by decide))
  have b1 := own_lo8 (c := c) 8 (c_ishr c 8 8 (by decide))
  have a2 := c_ishl (own_e0 c &&& (255 : Int32)) 0 0 (by decide)
  have b2 := c_ishl (own_e1 c &&& (255 : Int32)) 8 8 (by decide)
  have ra := rng32 ((own_e0 c &&& (255 : Int32)) <<< ((0 : Int32) &&& 31))
  have rb := rng32 ((own_e1 c &&& (255 : Int32)) <<< ((8 : Int32) &&& 31))
  have ea : (own_e0 c &&& (255 : Int32)).toInt = c.toInt / (2 ^ 0 : Nat) % 256 := a1
  have eb : (own_e1 c &&& (255 : Int32)).toInt = c.toInt / (2 ^ 8 : Nat) % 256 := b1
  have p0 : ((2 ^ 0 : Nat) : Int) = 1 := rfl
  have p8 : ((2 ^ 8 : Nat) : Int) = 256 := rfl
  rw [p0] at ea a2
  rw [p8] at eb b2
  have fa : ((own_e0 c &&& (255 : Int32)) <<< ((0 : Int32) &&& 31)).toInt = c.toInt % 256 := by omega
  have fb : ((own_e1 c &&& (255 : Int32)) <<< ((8 : Int32) &&& 31)).toInt = c.toInt / 256 * 256 := by omega
  have o := c_or' ((own_e0 c &&& (255 : Int32)) <<< ((0 : Int32) &&& 31)) ((own_e1 c &&& (255 : Int32)) <<< ((8 : Int32) &&& 31)) 8 (by decide) 256 rfl (by omega) (by omega) (by omega)
  have ro := rng32 (((own_e0 c &&& (255 : Int32)) <<< ((0 : Int32) &&& 31)) ||| ((own_e1 c &&& (255 : Int32)) <<< ((8 : Int32) &&& 31)))
  have eo : (((own_e0 c &&& (255 : Int32)) <<< ((0 : Int32) &&& 31)) ||| ((own_e1 c &&& (255 : Int32)) <<< ((8 : Int32) &&& 31))).toInt = c.toInt := by omega
  unfold own_u
  rw [own_c16 (by omega)]
  exact Int32.toInt_inj.mp eo
theorem own_lOk {c : Int32} (h : own_ch c) (h2 : ¬ (255 : Int32) < c) : own_lc (own_b8 c) = c := by
  rw [Int32.lt_iff_toInt_lt] at h2
  have e255 : (255 : Int32).toInt = 255 := rfl
  obtain ⟨h0, h1⟩ := h
  have e : c = Int32.ofNat c.toInt.toNat := by
    apply Int32.toInt_inj.mp
    rw [Int32.toInt_ofNat_of_lt (by omega)]
    omega
  have h3 := own_clA ⟨c.toInt.toNat, by omega⟩
  simp only [own_cl8, beq_iff_eq] at h3
  rw [← e] at h3
  exact h3

theorem own_nn (x : Int32) : nar .char (nar .char x) = nar .char x := by
  have h1 := c_i2c x
  have h2 := c_i2c (x.toUInt32.toUInt16.toUInt32.toInt32)
  show (x.toUInt32.toUInt16.toUInt32.toInt32).toUInt32.toUInt16.toUInt32.toInt32 = x.toUInt32.toUInt16.toUInt32.toInt32
  apply Int32.toInt_inj.mp
  omega
theorem own_chn (x : Int32) : own_ch (nar .char x) := (c_i2c x).2
theorem own_nch {x : Int32} (h : own_ch x) : nar .char x = x := by
  have h1 := c_i2c x
  obtain ⟨h2, h3⟩ := h
  show x.toUInt32.toUInt16.toUInt32.toInt32 = x
  apply Int32.toInt_inj.mp
  omega
def own_low (q : Int32) : Int32 := if q < (65 : Int32) then q else if (90 : Int32) < q then q else ((q + (97 : Int32)) - (65 : Int32))
def own_up (q : Int32) : Prop := ¬ q < (65 : Int32) ∧ ¬ (90 : Int32) < q
theorem own_sI {v w : Int32} (h : v = w) : some (Value.int v) = some (Value.int w) := by rw [h]
theorem own_lv {q : Int32} (h1 : ¬ q < (65 : Int32)) (h2 : ¬ (90 : Int32) < q) : ((q + (97 : Int32)) - (65 : Int32)).toInt = q.toInt + 32 ∧ 65 ≤ q.toInt ∧ q.toInt ≤ 90 := by
  rw [Int32.lt_iff_toInt_lt] at h1 h2
  have e1 : (65 : Int32).toInt = 65 := rfl
  have e2 : (90 : Int32).toInt = 90 := rfl
  have e3 : (97 : Int32).toInt = 97 := rfl
  have a := c_iadd q 97
  have b := c_isub (q + 97) 65
  have r := rng32 (q + 97)
  have r2 := rng32 ((q + 97) - 65)
  omega
theorem own_lowA {q : Int32} (hq : own_ch q) (h : q < (65 : Int32)) : nar .char q = own_low q := by rw [own_nch hq, own_low, if_pos h]
theorem own_lowB {q : Int32} (hq : own_ch q) (h : ¬ q < (65 : Int32)) (h2 : (90 : Int32) < q) : nar .char q = own_low q := by rw [own_nch hq, own_low, if_neg h, if_pos h2]
theorem own_lowC {q : Int32} (h : ¬ q < (65 : Int32)) (h2 : ¬ (90 : Int32) < q) : nar .char (((q + (97 : Int32)) - (65 : Int32)).toUInt32.toUInt16.toUInt32.toInt32) = own_low q := by
  have := own_lv h h2
  rw [own_c16 (by omega), own_low, if_neg h, if_neg h2]
theorem own_lowCh {q : Int32} (hq : own_ch q) : own_ch (own_low q) := by
  unfold own_low
  by_cases h : q < (65 : Int32)
  · rw [if_pos h]; exact hq
  · by_cases h2 : (90 : Int32) < q
    · rw [if_neg h, if_pos h2]; exact hq
    · rw [if_neg h, if_neg h2]
      have := own_lv h h2
      exact ⟨by omega, by omega⟩
theorem own_dv {q : Int32} (hq : own_ch q) : (q - (65 : Int32)).toInt = q.toInt - 65 := by
  obtain ⟨h2, h3⟩ := hq
  have e1 : (65 : Int32).toInt = 65 := rfl
  have b := c_isub q 65
  have r := rng32 (q - 65)
  omega
theorem own_exA {q : Int32} (hq : own_ch q) (h : (q - (65 : Int32)) < (0 : Int32)) : nar .char q = own_low q := by
  rw [Int32.lt_iff_toInt_lt, own_dv hq] at h
  have e0 : (0 : Int32).toInt = 0 := rfl
  have e1 : (65 : Int32).toInt = 65 := rfl
  exact own_lowA hq (by rw [Int32.lt_iff_toInt_lt]; omega)
theorem own_exB {q : Int32} (hq : own_ch q) (h0 : ¬ (q - (65 : Int32)) < (0 : Int32)) (h : ¬ (q - (65 : Int32)) < (26 : Int32)) : nar .char q = own_low q := by
  rw [Int32.lt_iff_toInt_lt, own_dv hq] at h h0
  have e0 : (0 : Int32).toInt = 0 := rfl
  have e26 : (26 : Int32).toInt = 26 := rfl
  have e1 : (65 : Int32).toInt = 65 := rfl
  have e2 : (90 : Int32).toInt = 90 := rfl
  exact own_lowB hq (by rw [Int32.lt_iff_toInt_lt]; omega) (by rw [Int32.lt_iff_toInt_lt]; omega)
theorem own_exC {q : Int32} (hq : own_ch q) (h0 : ¬ (q - (65 : Int32)) < (0 : Int32)) (h : (q - (65 : Int32)) < (26 : Int32)) : nar .char (((97 : Int32) + (q - (65 : Int32))).toUInt32.toUInt16.toUInt32.toInt32) = own_low q := by
  have d := own_dv hq
  rw [Int32.lt_iff_toInt_lt, d] at h h0
  have e0 : (0 : Int32).toInt = 0 := rfl
  have e26 : (26 : Int32).toInt = 26 := rfl
  have e1 : (65 : Int32).toInt = 65 := rfl
  have e2 : (90 : Int32).toInt = 90 := rfl
  have e3 : (97 : Int32).toInt = 97 := rfl
  have h1 : ¬ q < (65 : Int32) := by rw [Int32.lt_iff_toInt_lt]; omega
  have h2 : ¬ (90 : Int32) < q := by rw [Int32.lt_iff_toInt_lt]; omega
  have := own_lv h1 h2
  have a := c_iadd 97 (q - 65)
  have r := rng32 (97 + (q - 65))
  rw [own_c16 (by omega), own_low, if_neg h1, if_neg h2]
  apply Int32.toInt_inj.mp
  omega

abbrev my1 : MethodName := (⟨"com/example/annotree/annotree/tree/AsciiCaseLowerCasePinLaw", "mk", "(I)C"⟩ : MethodName)
theorem d1_1 : decode method_2_code 1 = .ok (.ldc 7, 2) := by decide +kernel
theorem d1_4 : decode method_2_code 4 = .ok (.ifCond .eq 11, 3) := by decide +kernel
theorem d1_12 : decode method_2_code 12 = .ok (.goto 5, 3) := by decide +kernel
theorem d1_17 : decode method_2_code 17 = .ok (.ireturn, 1) := by decide +kernel
theorem e1_0_1 : own_dec method_2_code 0 [(.iload_n 0, 1)] = true := by decide +kernel
theorem e1_3_1 : own_dec method_2_code 3 [(.iand, 1)] = true := by decide +kernel
theorem e1_15_2 : own_dec method_2_code 15 [(.iload_n 0, 1), (.i2c, 1)] = true := by decide +kernel
theorem e1_7_4 : own_dec method_2_code 7 [(.iload_n 0, 1), (.bipush 127, 2), (.iand, 1), (.i2c, 1)] = true := by decide +kernel
theorem pn_0 : plainName "com/example/annotree/annotree/tree/AsciiCaseLowerCasePinLaw" = true := by first | (simp [plainName, overriddenIn]; done) | decide +kernel
def Q1 (Z : State) (q : Int32) (h0 : Heap) (n0 : Nat) (v : Option Value) (h : Heap) (L : List Loc) : Prop := ∃ r : Int32, v = some (.int r) ∧ Fr n0 L ∧ h = h0 ∧ (own_ch r)
set_option maxRecDepth 65536 in
set_option maxHeartbeats 40000000 in
theorem rm1 (l : Launch) (Z : State) (a0 : Array Value) (hw : OW a0 Z) (ws : List Jvm.Cond) (q : Int32) (h0 : Heap) (n0 : Nat) (Z0 : n0 ≤ h0.size)  :
    own_Met l my1 method_2_code 1 (some .char) ws (own_rm 0 0 0 0) #[(.int q)] Z h0 (Q1 Z q h0 n0) 0 0 := by
  refine own_body (plainFor_of_name pn_0) (fun m => by first | (simp [entryFrame, mkF, argsToLocals, Value.category]; done) | rfl) (Ls := #[.val (.int q)]) fun p e s m below meth c s₁ X0 hx hby hml hZ e0 hown hnm hlk hrt => ?_
  have N0 := Fr.nil n0
  refine own_ru 1 [(.int q)] X0 hx hby e1_0_1 rfl rfl ?_
  refine own_st 3 [(.int (65536 : Int32)), (.int q)] (X0.ldcInt hx hown (mvT hZ (wd4 hw)) (g := (mkF m 1 #[.val (.int q)] [(.int q)])) rfl (hb hby d1_1)) ?_
  refine own_ru 4 [(.int (q &&& (65536 : Int32)))] X0 hx hby e1_3_1 rfl rfl ?_
  by_cases hc4 : (q &&& (65536 : Int32)) = (0 : Int32)
  · refine own_iY 15 X0 hx (hb hby d1_4) rfl ((if0 _ _).trans (teq hc4).1) (by decide) (by decide) ?_
    refine own_ru 17 [(.int (q.toUInt32.toUInt16.toUInt32.toInt32))] X0 hx hby e1_15_2 rfl rfl ?_
    have hq1 : Q1 Z q h0 n0 (some (.int (nar .char (q.toUInt32.toUInt16.toUInt32.toInt32)))) h0 _ := ⟨(nar .char (q.toUInt32.toUInt16.toUInt32.toInt32)), rfl, N0, rfl, (own_chn _)⟩
    exact own_retN X0 hx hlk (t := .char) hrt (by simp) (hb hby d1_17) e0 hq1 (by decide) (by decide)
  · refine own_iN 7 X0 hx (hb hby d1_4) rfl ((if0 _ _).trans (feq hc4).1) rfl ?_
    refine own_ru 12 [(.int ((q &&& (127 : Int32)).toUInt32.toUInt16.toUInt32.toInt32))] X0 hx hby e1_7_4 rfl rfl ?_
    refine own_go 17 X0 hx (hb hby d1_12) (by decide) (by decide) ?_
    have hq2 : Q1 Z q h0 n0 (some (.int (nar .char ((q &&& (127 : Int32)).toUInt32.toUInt16.toUInt32.toInt32)))) h0 _ := ⟨(nar .char ((q &&& (127 : Int32)).toUInt32.toUInt16.toUInt32.toInt32)), rfl, N0, rfl, (own_chn _)⟩
    exact own_retN X0 hx hlk (t := .char) hrt (by simp) (hb hby d1_17) e0 hq2 (by decide) (by decide)
abbrev my16 : MethodName := (⟨"com/example/annotree/annotree/tree/AsciiCase", "lowerCase", "(C)C"⟩ : MethodName)
theorem d16_3 : decode prog_14_method_3_code 3 = .ok (.if_icmp .lt 20, 3) := by decide +kernel
theorem d16_9 : decode prog_14_method_3_code 9 = .ok (.if_icmp .gt 14, 3) := by decide +kernel
theorem d16_20 : decode prog_14_method_3_code 20 = .ok (.goto 4, 3) := by decide +kernel
theorem d16_24 : decode prog_14_method_3_code 24 = .ok (.ireturn, 1) := by decide +kernel
theorem e16_0_2 : own_dec prog_14_method_3_code 0 [(.iload_n 0, 1), (.bipush 65, 2)] = true := by decide +kernel
theorem e16_23_1 : own_dec prog_14_method_3_code 23 [(.iload_n 0, 1)] = true := by decide +kernel
theorem e16_6_2 : own_dec prog_14_method_3_code 6 [(.iload_n 0, 1), (.bipush 90, 2)] = true := by decide +kernel
theorem e16_12_6 : own_dec prog_14_method_3_code 12 [(.iload_n 0, 1), (.bipush 97, 2), (.iadd, 1), (.bipush 65, 2), (.isub, 1), (.i2c, 1)] = true := by decide +kernel
theorem pn_1 : plainName "com/example/annotree/annotree/tree/AsciiCase" = true := by first | (simp [plainName, overriddenIn]; done) | decide +kernel
def Q16 (Z : State) (q : Int32) (h0 : Heap) (n0 : Nat) (v : Option Value) (h : Heap) (L : List Loc) : Prop := v = some (.int (own_low q)) ∧ Fr n0 L ∧ h = h0
set_option maxRecDepth 65536 in
set_option maxHeartbeats 40000000 in
theorem rm16 (l : Launch) (Z : State) (a0 : Array Value) (hw : OW a0 Z) (ws : List Jvm.Cond) (q : Int32) (h0 : Heap) (n0 : Nat) (Z0 : n0 ≤ h0.size) (hq : own_ch q) :
    own_Met l my16 prog_14_method_3_code 1 (some .char) ws (own_rm 0 0 0 0) #[(.int q)] Z h0 (Q16 Z q h0 n0) 0 0 := by
  refine own_body (plainFor_of_name pn_1) (fun m => by first | (simp [entryFrame, mkF, argsToLocals, Value.category]; done) | rfl) (Ls := #[.val (.int q)]) fun p e s m below meth c s₁ X0 hx hby hml hZ e0 hown hnm hlk hrt => ?_
  have N0 := Fr.nil n0
  refine own_ru 3 [(.int (65 : Int32)), (.int q)] X0 hx hby e16_0_2 rfl rfl ?_
  by_cases hc3 : q < (65 : Int32)
  · refine own_kY 23 X0 hx (hb hby d16_3) rfl (tlt hc3).1 (by decide) (by decide) ?_
    refine own_ru 24 [(.int q)] X0 hx hby e16_23_1 rfl rfl ?_
    have hq3 : Q16 Z q h0 n0 (some (.int (nar .char q))) h0 _ := ⟨(own_sI (own_lowA hq hc3)), N0, rfl⟩
    exact own_retN X0 hx hlk (t := .char) hrt (by simp) (hb hby d16_24) e0 hq3 (by decide) (by decide)
  · refine own_kN 6 X0 hx (hb hby d16_3) rfl (flt hc3).1 rfl ?_
    refine own_ru 9 [(.int (90 : Int32)), (.int q)] X0 hx hby e16_6_2 rfl rfl ?_
    by_cases hc9 : (90 : Int32) < q
    · refine own_kY 23 X0 hx (hb hby d16_9) rfl (tlt hc9).2.2.1 (by decide) (by decide) ?_
      refine own_ru 24 [(.int q)] X0 hx hby e16_23_1 rfl rfl ?_
      have hq4 : Q16 Z q h0 n0 (some (.int (nar .char q))) h0 _ := ⟨(own_sI (own_lowB hq hc3 hc9)), N0, rfl⟩
      exact own_retN X0 hx hlk (t := .char) hrt (by simp) (hb hby d16_24) e0 hq4 (by decide) (by decide)
    · refine own_kN 12 X0 hx (hb hby d16_9) rfl (flt hc9).2.2.1 rfl ?_
      refine own_ru 20 [(.int (((q + (97 : Int32)) - (65 : Int32)).toUInt32.toUInt16.toUInt32.toInt32))] X0 hx hby e16_12_6 rfl rfl ?_
      refine own_go 24 X0 hx (hb hby d16_20) (by decide) (by decide) ?_
      have hq5 : Q16 Z q h0 n0 (some (.int (nar .char (((q + (97 : Int32)) - (65 : Int32)).toUInt32.toUInt16.toUInt32.toInt32)))) h0 _ := ⟨(own_sI (own_lowC hc3 hc9)), N0, rfl⟩
      exact own_retN X0 hx hlk (t := .char) hrt (by simp) (hb hby d16_24) e0 hq5 (by decide) (by decide)
abbrev my17 : MethodName := (⟨"com/example/annotree/annotree/tree/AsciiCaseLowerCasePinLaw", "exp", "(C)C"⟩ : MethodName)
theorem d17_6 : decode method_4_code 6 = .ok (.ifCond .lt 17, 3) := by decide +kernel
theorem d17_12 : decode method_4_code 12 = .ok (.if_icmp .ge 11, 3) := by decide +kernel
theorem d17_20 : decode method_4_code 20 = .ok (.goto 4, 3) := by decide +kernel
theorem d17_24 : decode method_4_code 24 = .ok (.ireturn, 1) := by decide +kernel
theorem e17_0_5 : own_dec method_4_code 0 [(.iload_n 0, 1), (.bipush 65, 2), (.isub, 1), (.istore_n 1, 1), (.iload_n 1, 1)] = true := by decide +kernel
theorem e17_23_1 : own_dec method_4_code 23 [(.iload_n 0, 1)] = true := by decide +kernel
theorem e17_9_2 : own_dec method_4_code 9 [(.iload_n 1, 1), (.bipush 26, 2)] = true := by decide +kernel
theorem e17_15_4 : own_dec method_4_code 15 [(.bipush 97, 2), (.iload_n 1, 1), (.iadd, 1), (.i2c, 1)] = true := by decide +kernel
def Q17 (Z : State) (q : Int32) (h0 : Heap) (n0 : Nat) (v : Option Value) (h : Heap) (L : List Loc) : Prop := v = some (.int (own_low q)) ∧ Fr n0 L ∧ h = h0
set_option maxRecDepth 65536 in
set_option maxHeartbeats 40000000 in
theorem rm17 (l : Launch) (Z : State) (a0 : Array Value) (hw : OW a0 Z) (ws : List Jvm.Cond) (q : Int32) (h0 : Heap) (n0 : Nat) (Z0 : n0 ≤ h0.size) (hq : own_ch q) :
    own_Met l my17 method_4_code 2 (some .char) ws (own_rm 0 0 0 0) #[(.int q)] Z h0 (Q17 Z q h0 n0) 0 0 := by
  refine own_body (plainFor_of_name pn_0) (fun m => by first | (simp [entryFrame, mkF, argsToLocals, Value.category]; done) | rfl) (Ls := #[.val (.int q), .unset]) fun p e s m below meth c s₁ X0 hx hby hml hZ e0 hown hnm hlk hrt => ?_
  have N0 := Fr.nil n0
  refine own_rl 6 #[.val (.int q), .val (.int (q - (65 : Int32)))] [(.int (q - (65 : Int32)))] X0 hx hby e17_0_5 rfl rfl ?_
  by_cases hc6 : (q - (65 : Int32)) < (0 : Int32)
  · refine own_iY 23 X0 hx (hb hby d17_6) rfl ((if0 _ _).trans (tlt hc6).1) (by decide) (by decide) ?_
    refine own_ru 24 [(.int q)] X0 hx hby e17_23_1 rfl rfl ?_
    have hq6 : Q17 Z q h0 n0 (some (.int (nar .char q))) h0 _ := ⟨(own_sI (own_exA hq hc6)), N0, rfl⟩
    exact own_retN X0 hx hlk (t := .char) hrt (by simp) (hb hby d17_24) e0 hq6 (by decide) (by decide)
  · refine own_iN 9 X0 hx (hb hby d17_6) rfl ((if0 _ _).trans (flt hc6).1) rfl ?_
    refine own_ru 12 [(.int (26 : Int32)), (.int (q - (65 : Int32)))] X0 hx hby e17_9_2 rfl rfl ?_
    by_cases hc12 : (q - (65 : Int32)) < (26 : Int32)
    · refine own_kN 15 X0 hx (hb hby d17_12) rfl (tlt hc12).2.1 rfl ?_
      refine own_ru 20 [(.int (((97 : Int32) + (q - (65 : Int32))).toUInt32.toUInt16.toUInt32.toInt32))] X0 hx hby e17_15_4 rfl rfl ?_
      refine own_go 24 X0 hx (hb hby d17_20) (by decide) (by decide) ?_
      have hq7 : Q17 Z q h0 n0 (some (.int (nar .char (((97 : Int32) + (q - (65 : Int32))).toUInt32.toUInt16.toUInt32.toInt32)))) h0 _ := ⟨(own_sI (own_exC hq hc6 hc12)), N0, rfl⟩
      exact own_retN X0 hx hlk (t := .char) hrt (by simp) (hb hby d17_24) e0 hq7 (by decide) (by decide)
    · refine own_kY 23 X0 hx (hb hby d17_12) rfl (flt hc12).2.1 (by decide) (by decide) ?_
      refine own_ru 24 [(.int q)] X0 hx hby e17_23_1 rfl rfl ?_
      have hq8 : Q17 Z q h0 n0 (some (.int (nar .char q))) h0 _ := ⟨(own_sI (own_exB hq hc6 hc12)), N0, rfl⟩
      exact own_retN X0 hx hlk (t := .char) hrt (by simp) (hb hby d17_24) e0 hq8 (by decide) (by decide)
abbrev my18 : MethodName := (⟨"com/example/annotree/annotree/tree/AsciiCaseLowerCasePinLaw", "upper", "(C)Z"⟩ : MethodName)
theorem d18_3 : decode method_3_code 3 = .ok (.if_icmp .lt 13, 3) := by decide +kernel
theorem d18_9 : decode method_3_code 9 = .ok (.if_icmp .gt 7, 3) := by decide +kernel
theorem d18_13 : decode method_3_code 13 = .ok (.goto 4, 3) := by decide +kernel
theorem d18_17 : decode method_3_code 17 = .ok (.ireturn, 1) := by decide +kernel
theorem e18_0_2 : own_dec method_3_code 0 [(.iload_n 0, 1), (.bipush 65, 2)] = true := by decide +kernel
theorem e18_16_1 : own_dec method_3_code 16 [(.iconst 0, 1)] = true := by decide +kernel
theorem e18_6_2 : own_dec method_3_code 6 [(.iload_n 0, 1), (.bipush 90, 2)] = true := by decide +kernel
theorem e18_12_1 : own_dec method_3_code 12 [(.iconst 1, 1)] = true := by decide +kernel
def Q18 (Z : State) (q : Int32) (h0 : Heap) (n0 : Nat) (v : Option Value) (h : Heap) (L : List Loc) : Prop := own_bool (own_up q) v ∧ Fr n0 L ∧ h = h0
set_option maxRecDepth 65536 in
set_option maxHeartbeats 40000000 in
theorem rm18 (l : Launch) (Z : State) (a0 : Array Value) (hw : OW a0 Z) (ws : List Jvm.Cond) (q : Int32) (h0 : Heap) (n0 : Nat) (Z0 : n0 ≤ h0.size)  :
    own_Met l my18 method_3_code 1 (some .boolean) ws (own_rm 0 0 0 0) #[(.int q)] Z h0 (Q18 Z q h0 n0) 0 0 := by
  refine own_body (plainFor_of_name pn_0) (fun m => by first | (simp [entryFrame, mkF, argsToLocals, Value.category]; done) | rfl) (Ls := #[.val (.int q)]) fun p e s m below meth c s₁ X0 hx hby hml hZ e0 hown hnm hlk hrt => ?_
  have N0 := Fr.nil n0
  refine own_ru 3 [(.int (65 : Int32)), (.int q)] X0 hx hby e18_0_2 rfl rfl ?_
  by_cases hc3 : q < (65 : Int32)
  · refine own_kY 16 X0 hx (hb hby d18_3) rfl (tlt hc3).1 (by decide) (by decide) ?_
    refine own_ru 17 [(.int (0 : Int32))] X0 hx hby e18_16_1 rfl rfl ?_
    have hq9 : Q18 Z q h0 n0 (some (.int (nar .boolean (0 : Int32)))) h0 _ := ⟨Or.inr ⟨rfl, (fun z => z.1 hc3)⟩, N0, rfl⟩
    exact own_retN X0 hx hlk (t := .boolean) hrt (by simp) (hb hby d18_17) e0 hq9 (by decide) (by decide)
  · refine own_kN 6 X0 hx (hb hby d18_3) rfl (flt hc3).1 rfl ?_
    refine own_ru 9 [(.int (90 : Int32)), (.int q)] X0 hx hby e18_6_2 rfl rfl ?_
    by_cases hc9 : (90 : Int32) < q
    · refine own_kY 16 X0 hx (hb hby d18_9) rfl (tlt hc9).2.2.1 (by decide) (by decide) ?_
      refine own_ru 17 [(.int (0 : Int32))] X0 hx hby e18_16_1 rfl rfl ?_
      have hq10 : Q18 Z q h0 n0 (some (.int (nar .boolean (0 : Int32)))) h0 _ := ⟨Or.inr ⟨rfl, (fun z => z.2 hc9)⟩, N0, rfl⟩
      exact own_retN X0 hx hlk (t := .boolean) hrt (by simp) (hb hby d18_17) e0 hq10 (by decide) (by decide)
    · refine own_kN 12 X0 hx (hb hby d18_9) rfl (flt hc9).2.2.1 rfl ?_
      refine own_ru 13 [(.int (1 : Int32))] X0 hx hby e18_12_1 rfl rfl ?_
      refine own_go 17 X0 hx (hb hby d18_13) (by decide) (by decide) ?_
      have hq11 : Q18 Z q h0 n0 (some (.int (nar .boolean (1 : Int32)))) h0 _ := ⟨Or.inl ⟨rfl, ⟨hc3, hc9⟩⟩, N0, rfl⟩
      exact own_retN X0 hx hlk (t := .boolean) hrt (by simp) (hb hby d18_17) e0 hq11 (by decide) (by decide)
abbrev my12 : MethodName := (⟨"java/lang/String", "isLatin1", "()Z"⟩ : MethodName)
theorem d12_0 : decode jdk_42_method_154_code 0 = .ok (.getstatic 38, 3) := by decide +kernel
theorem d12_3 : decode jdk_42_method_154_code 3 = .ok (.ifCond .eq 14, 3) := by decide +kernel
theorem d12_7 : decode jdk_42_method_154_code 7 = .ok (.getfield 15, 3) := by decide +kernel
theorem d12_10 : decode jdk_42_method_154_code 10 = .ok (.ifCond .ne 7, 3) := by decide +kernel
theorem d12_14 : decode jdk_42_method_154_code 14 = .ok (.goto 4, 3) := by decide +kernel
theorem d12_18 : decode jdk_42_method_154_code 18 = .ok (.ireturn, 1) := by decide +kernel
theorem e12_6_1 : own_dec jdk_42_method_154_code 6 [(.aload_n 0, 1)] = true := by decide +kernel
theorem e12_13_1 : own_dec jdk_42_method_154_code 13 [(.iconst 1, 1)] = true := by decide +kernel
theorem pn_2 : plainName "java/lang/String" = true := by first | (simp [plainName, overriddenIn]; done) | decide +kernel
def Q12d0 (Z : State) (G1 : Int32) (G2 : Value) (a1 : Addr) (h0 : Heap) (n0 : Nat) (v : Option Value) (h : Heap) (L : List Loc) : Prop := v = some (.int (1 : Int32)) ∧ Fr n0 L ∧ h = h0
set_option maxRecDepth 65536 in
set_option maxHeartbeats 40000000 in
theorem rm12d0 (l : Launch) (Z : State) (a0 : Array Value) (hw : OW a0 Z) (ws : List Jvm.Cond) (G1 : Int32) (G2 : Value) (a1 : Addr) (h0 : Heap) (n0 : Nat) (Z0 : n0 ≤ h0.size) (OLD : Old Z n0 h0) (A : Amb Z G1 G2) (P0 : fl0 Z h0 a1 (.int (0 : Int32))) :
    own_Met l my12 jdk_42_method_154_code 1 (some .boolean) ws (own_rm 0 0 0 0) #[(.ref a1)] Z h0 (Q12d0 Z G1 G2 a1 h0 n0) 0 0 := by
  refine own_body (plainFor_of_name pn_2) (fun m => by first | (simp [entryFrame, mkF, argsToLocals, Value.category]; done) | rfl) (Ls := #[.val (.ref a1)]) fun p e s m below meth c s₁ X0 hx hby hml hZ e0 hown hnm hlk hrt => ?_
  have N0 := Fr.nil n0
  have lt_P0 : @LT.lt Nat _ a1 (Array.size h0) := P0.lt
  have f12 : Sta Z h0 "java/lang/String" "COMPACT_STRINGS" "Z" (.int G1) := Sta.ext OLD.2 (Amb.a0 A)
  refine own_gS X0 hx hZ hown (host := "") (Or.inl (wd41 hw)) Via.refl e0 f12 3 (hb hby d12_0) rfl fun T13 X13 e13 => ?_
  refine own_iN 6 X13 hx (hb hby d12_3) rfl ((if0 _ _).trans (feq (Amb.g1 A)).1) rfl ?_
  refine own_ru 7 [(.ref a1)] X13 hx hby e12_6_1 rfl rfl ?_
  refine own_gF X13 hx hZ hown (host := "") (Or.inl (wd26 hw)) Via.refl e13 P0 10 rfl (hb hby d12_7) rfl fun T14 X14 e14 => ?_
  refine own_iN 13 X14 hx (hb hby d12_10) rfl ((if0 _ _).trans (teq (by decide : ((0 : Int32) = (0 : Int32)))).2) rfl ?_
  refine own_ru 14 [(.int (1 : Int32))] X14 hx hby e12_13_1 rfl rfl ?_
  refine own_go 18 X14 hx (hb hby d12_14) (by decide) (by decide) ?_
  have hq15 : Q12d0 Z G1 G2 a1 h0 n0 (some (.int (nar .boolean (1 : Int32)))) h0 _ := ⟨rfl, N0, rfl⟩
  exact own_retN X14 hx hlk (t := .boolean) hrt (by simp) (hb hby d12_18) e14 hq15 (by decide) (by decide)
abbrev my7 : MethodName := (⟨"java/lang/String", "coder", "()B"⟩ : MethodName)
theorem d7_0 : decode jdk_42_method_152_code 0 = .ok (.getstatic 38, 3) := by decide +kernel
theorem d7_3 : decode jdk_42_method_152_code 3 = .ok (.ifCond .eq 10, 3) := by decide +kernel
theorem d7_7 : decode jdk_42_method_152_code 7 = .ok (.getfield 15, 3) := by decide +kernel
theorem d7_10 : decode jdk_42_method_152_code 10 = .ok (.goto 4, 3) := by decide +kernel
theorem d7_14 : decode jdk_42_method_152_code 14 = .ok (.ireturn, 1) := by decide +kernel
theorem e7_6_1 : own_dec jdk_42_method_152_code 6 [(.aload_n 0, 1)] = true := by decide +kernel
def Q7d0 (Z : State) (G1 : Int32) (G2 : Value) (a1 : Addr) (h0 : Heap) (n0 : Nat) (v : Option Value) (h : Heap) (L : List Loc) : Prop := v = some (.int (0 : Int32)) ∧ Fr n0 L ∧ h = h0
set_option maxRecDepth 65536 in
set_option maxHeartbeats 40000000 in
theorem rm7d0 (l : Launch) (Z : State) (a0 : Array Value) (hw : OW a0 Z) (ws : List Jvm.Cond) (G1 : Int32) (G2 : Value) (a1 : Addr) (h0 : Heap) (n0 : Nat) (Z0 : n0 ≤ h0.size) (OLD : Old Z n0 h0) (A : Amb Z G1 G2) (P0 : fl0 Z h0 a1 (.int (0 : Int32))) :
    own_Met l my7 jdk_42_method_152_code 1 (some .byte) ws (own_rm 0 0 0 0) #[(.ref a1)] Z h0 (Q7d0 Z G1 G2 a1 h0 n0) 0 0 := by
  refine own_body (plainFor_of_name pn_2) (fun m => by first | (simp [entryFrame, mkF, argsToLocals, Value.category]; done) | rfl) (Ls := #[.val (.ref a1)]) fun p e s m below meth c s₁ X0 hx hby hml hZ e0 hown hnm hlk hrt => ?_
  have N0 := Fr.nil n0
  have lt_P0 : @LT.lt Nat _ a1 (Array.size h0) := P0.lt
  have f16 : Sta Z h0 "java/lang/String" "COMPACT_STRINGS" "Z" (.int G1) := Sta.ext OLD.2 (Amb.a0 A)
  refine own_gS X0 hx hZ hown (host := "") (Or.inl (wd41 hw)) Via.refl e0 f16 3 (hb hby d7_0) rfl fun T17 X17 e17 => ?_
  refine own_iN 6 X17 hx (hb hby d7_3) rfl ((if0 _ _).trans (feq (Amb.g1 A)).1) rfl ?_
  refine own_ru 7 [(.ref a1)] X17 hx hby e7_6_1 rfl rfl ?_
  refine own_gF X17 hx hZ hown (host := "") (Or.inl (wd26 hw)) Via.refl e17 P0 10 rfl (hb hby d7_7) rfl fun T18 X18 e18 => ?_
  refine own_go 14 X18 hx (hb hby d7_10) (by decide) (by decide) ?_
  have hq19 : Q7d0 Z G1 G2 a1 h0 n0 (some (.int (nar .byte (0 : Int32)))) h0 _ := ⟨rfl, N0, rfl⟩
  exact own_retN X18 hx hlk (t := .byte) hrt (by simp) (hb hby d7_14) e18 hq19 (by decide) (by decide)
theorem e12_17_1 : own_dec jdk_42_method_154_code 17 [(.iconst 0, 1)] = true := by decide +kernel
def Q12d1 (Z : State) (G1 : Int32) (G2 : Value) (a1 : Addr) (h0 : Heap) (n0 : Nat) (v : Option Value) (h : Heap) (L : List Loc) : Prop := v = some (.int (0 : Int32)) ∧ Fr n0 L ∧ h = h0
set_option maxRecDepth 65536 in
set_option maxHeartbeats 40000000 in
theorem rm12d1 (l : Launch) (Z : State) (a0 : Array Value) (hw : OW a0 Z) (ws : List Jvm.Cond) (G1 : Int32) (G2 : Value) (a1 : Addr) (h0 : Heap) (n0 : Nat) (Z0 : n0 ≤ h0.size) (OLD : Old Z n0 h0) (A : Amb Z G1 G2) (P0 : fl0 Z h0 a1 (.int (1 : Int32))) :
    own_Met l my12 jdk_42_method_154_code 1 (some .boolean) ws (own_rm 0 0 0 0) #[(.ref a1)] Z h0 (Q12d1 Z G1 G2 a1 h0 n0) 0 0 := by
  refine own_body (plainFor_of_name pn_2) (fun m => by first | (simp [entryFrame, mkF, argsToLocals, Value.category]; done) | rfl) (Ls := #[.val (.ref a1)]) fun p e s m below meth c s₁ X0 hx hby hml hZ e0 hown hnm hlk hrt => ?_
  have N0 := Fr.nil n0
  have lt_P0 : @LT.lt Nat _ a1 (Array.size h0) := P0.lt
  have f20 : Sta Z h0 "java/lang/String" "COMPACT_STRINGS" "Z" (.int G1) := Sta.ext OLD.2 (Amb.a0 A)
  refine own_gS X0 hx hZ hown (host := "") (Or.inl (wd41 hw)) Via.refl e0 f20 3 (hb hby d12_0) rfl fun T21 X21 e21 => ?_
  refine own_iN 6 X21 hx (hb hby d12_3) rfl ((if0 _ _).trans (feq (Amb.g1 A)).1) rfl ?_
  refine own_ru 7 [(.ref a1)] X21 hx hby e12_6_1 rfl rfl ?_
  refine own_gF X21 hx hZ hown (host := "") (Or.inl (wd26 hw)) Via.refl e21 P0 10 rfl (hb hby d12_7) rfl fun T22 X22 e22 => ?_
  refine own_iY 17 X22 hx (hb hby d12_10) rfl ((if0 _ _).trans (feq (by decide : ¬ ((1 : Int32) = (0 : Int32)))).2) (by decide) (by decide) ?_
  refine own_ru 18 [(.int (0 : Int32))] X22 hx hby e12_17_1 rfl rfl ?_
  have hq23 : Q12d1 Z G1 G2 a1 h0 n0 (some (.int (nar .boolean (0 : Int32)))) h0 _ := ⟨rfl, N0, rfl⟩
  exact own_retN X22 hx hlk (t := .boolean) hrt (by simp) (hb hby d12_18) e22 hq23 (by decide) (by decide)
def Q7d1 (Z : State) (G1 : Int32) (G2 : Value) (a1 : Addr) (h0 : Heap) (n0 : Nat) (v : Option Value) (h : Heap) (L : List Loc) : Prop := v = some (.int (1 : Int32)) ∧ Fr n0 L ∧ h = h0
set_option maxRecDepth 65536 in
set_option maxHeartbeats 40000000 in
theorem rm7d1 (l : Launch) (Z : State) (a0 : Array Value) (hw : OW a0 Z) (ws : List Jvm.Cond) (G1 : Int32) (G2 : Value) (a1 : Addr) (h0 : Heap) (n0 : Nat) (Z0 : n0 ≤ h0.size) (OLD : Old Z n0 h0) (A : Amb Z G1 G2) (P0 : fl0 Z h0 a1 (.int (1 : Int32))) :
    own_Met l my7 jdk_42_method_152_code 1 (some .byte) ws (own_rm 0 0 0 0) #[(.ref a1)] Z h0 (Q7d1 Z G1 G2 a1 h0 n0) 0 0 := by
  refine own_body (plainFor_of_name pn_2) (fun m => by first | (simp [entryFrame, mkF, argsToLocals, Value.category]; done) | rfl) (Ls := #[.val (.ref a1)]) fun p e s m below meth c s₁ X0 hx hby hml hZ e0 hown hnm hlk hrt => ?_
  have N0 := Fr.nil n0
  have lt_P0 : @LT.lt Nat _ a1 (Array.size h0) := P0.lt
  have f24 : Sta Z h0 "java/lang/String" "COMPACT_STRINGS" "Z" (.int G1) := Sta.ext OLD.2 (Amb.a0 A)
  refine own_gS X0 hx hZ hown (host := "") (Or.inl (wd41 hw)) Via.refl e0 f24 3 (hb hby d7_0) rfl fun T25 X25 e25 => ?_
  refine own_iN 6 X25 hx (hb hby d7_3) rfl ((if0 _ _).trans (feq (Amb.g1 A)).1) rfl ?_
  refine own_ru 7 [(.ref a1)] X25 hx hby e7_6_1 rfl rfl ?_
  refine own_gF X25 hx hZ hown (host := "") (Or.inl (wd26 hw)) Via.refl e25 P0 10 rfl (hb hby d7_7) rfl fun T26 X26 e26 => ?_
  refine own_go 14 X26 hx (hb hby d7_10) (by decide) (by decide) ?_
  have hq27 : Q7d1 Z G1 G2 a1 h0 n0 (some (.int (nar .byte (1 : Int32)))) h0 _ := ⟨rfl, N0, rfl⟩
  exact own_retN X26 hx hlk (t := .byte) hrt (by simp) (hb hby d7_14) e26 hq27 (by decide) (by decide)
abbrev my6 : MethodName := (⟨"java/lang/String", "length", "()I"⟩ : MethodName)
theorem d6_1 : decode jdk_42_method_54_code 1 = .ok (.getfield 9, 3) := by decide +kernel
theorem d6_4 : decode jdk_42_method_54_code 4 = .ok (.arraylength, 1) := by decide +kernel
theorem d6_6 : decode jdk_42_method_54_code 6 = .ok (.invokevirtual 335, 3) := by decide +kernel
theorem d6_10 : decode jdk_42_method_54_code 10 = .ok (.ireturn, 1) := by decide +kernel
theorem e6_0_1 : own_dec jdk_42_method_54_code 0 [(.aload_n 0, 1)] = true := by decide +kernel
theorem e6_5_1 : own_dec jdk_42_method_54_code 5 [(.aload_n 0, 1)] = true := by decide +kernel
theorem e6_9_1 : own_dec jdk_42_method_54_code 9 [(.ishr, 1)] = true := by decide +kernel
theorem pd_0 : parseMethodDescriptor "()B" = some ⟨[], some .byte⟩ := by decide +kernel
def Q6d0 (Z : State) (G1 : Int32) (G2 : Value) (a1 : Addr) (ta : Addr) (kt : ClassId) (zz : Int32) (vs : List Value) (h0 : Heap) (n0 : Nat) (v : Option Value) (h : Heap) (L : List Loc) : Prop := v = some (.int (zz >>> ((0 : Int32) &&& 31))) ∧ Fr n0 L ∧ h = h0
set_option maxRecDepth 65536 in
set_option maxHeartbeats 40000000 in
theorem rm6d0 (l : Launch) (Z : State) (a0 : Array Value) (hw : OW a0 Z) (ws : List Jvm.Cond) (G1 : Int32) (G2 : Value) (a1 : Addr) (ta : Addr) (kt : ClassId) (zz : Int32) (vs : List Value) (h0 : Heap) (n0 : Nat) (Z0 : n0 ≤ h0.size) (OLD : Old Z n0 h0) (A : Amb Z G1 G2) (P0 : ex1 Z h0 a1) (P1 : fl2 Z h0 a1 (.ref ta)) (P2 : fl0 Z h0 a1 (.int (0 : Int32))) (P3 : Arv Z h0 ta kt .byte zz vs (.int (0 : Int32))) :
    own_Met l my6 jdk_42_method_54_code 1 (some .int) ws (own_rm 1 0 0 13) #[(.ref a1)] Z h0 (Q6d0 Z G1 G2 a1 ta kt zz vs h0 n0) 0 0 := by
  refine own_body (plainFor_of_name pn_2) (fun m => by first | (simp [entryFrame, mkF, argsToLocals, Value.category]; done) | rfl) (Ls := #[.val (.ref a1)]) fun p e s m below meth c s₁ X0 hx hby hml hZ e0 hown hnm hlk hrt => ?_
  have N0 := Fr.nil n0
  have lt_P0 : @LT.lt Nat _ a1 (Array.size h0) := P0.lt
  have lt_P3 : @LT.lt Nat _ ta (Array.size h0) := P3.lt
  refine own_ru 1 [(.ref a1)] X0 hx hby e6_0_1 rfl rfl ?_
  refine own_gF X0 hx hZ hown (host := "") (Or.inl (wd25 hw)) Via.refl e0 P1 4 rfl (hb hby d6_1) rfl fun T28 X28 e28 => ?_
  refine own_aL X28 hx hZ e28 P3 5 rfl (hb hby d6_4) rfl ?_
  refine own_ru 6 [(.ref a1), (.int zz)] X28 hx hby e6_5_1 rfl rfl ?_
  refine own_cV X28 hx hZ hown (wd36 hw) (wd37 hw) (notFace_of_selects (args := #[]) (mvT hZ (wd39 hw))) (wd39 hw) (wd38 hw) (by decide) (wd40 hw) (wd8 hw) (rm7d0 l Z a0 hw [] G1 G2 a1 h0 n0 (by omega) OLD A P2) e28 P0 [] [(.int zz)] 9 1 (hb hby d6_6) rfl (by rw [hml]; rfl) rfl rfl (lenOf pd_0 rfl) rfl (by decide) fun v29 T29 Lc29 X29 hQ29 => ?_
  obtain ⟨rfl, N29q, e29⟩ := hQ29
  have N29 := Fr.app N0 N29q
  refine own_ru 10 [(.int (zz >>> ((0 : Int32) &&& 31)))] X29 hx hby e6_9_1 rfl rfl ?_
  have hq30 : Q6d0 Z G1 G2 a1 ta kt zz vs h0 n0 (some (.int (zz >>> ((0 : Int32) &&& 31)))) h0 _ := ⟨rfl, N29, rfl⟩
  exact own_retI X29 hx hlk hrt (hb hby d6_10) e29 hq30 (by decide) (by decide)
def Q6d1 (Z : State) (G1 : Int32) (G2 : Value) (a1 : Addr) (ta : Addr) (kt : ClassId) (zz : Int32) (vs : List Value) (h0 : Heap) (n0 : Nat) (v : Option Value) (h : Heap) (L : List Loc) : Prop := v = some (.int (zz >>> ((1 : Int32) &&& 31))) ∧ Fr n0 L ∧ h = h0
set_option maxRecDepth 65536 in
set_option maxHeartbeats 40000000 in
theorem rm6d1 (l : Launch) (Z : State) (a0 : Array Value) (hw : OW a0 Z) (ws : List Jvm.Cond) (G1 : Int32) (G2 : Value) (a1 : Addr) (ta : Addr) (kt : ClassId) (zz : Int32) (vs : List Value) (h0 : Heap) (n0 : Nat) (Z0 : n0 ≤ h0.size) (OLD : Old Z n0 h0) (A : Amb Z G1 G2) (P0 : ex1 Z h0 a1) (P1 : fl2 Z h0 a1 (.ref ta)) (P2 : fl0 Z h0 a1 (.int (1 : Int32))) (P3 : Arv Z h0 ta kt .byte zz vs (.int (0 : Int32))) :
    own_Met l my6 jdk_42_method_54_code 1 (some .int) ws (own_rm 1 0 0 13) #[(.ref a1)] Z h0 (Q6d1 Z G1 G2 a1 ta kt zz vs h0 n0) 0 0 := by
  refine own_body (plainFor_of_name pn_2) (fun m => by first | (simp [entryFrame, mkF, argsToLocals, Value.category]; done) | rfl) (Ls := #[.val (.ref a1)]) fun p e s m below meth c s₁ X0 hx hby hml hZ e0 hown hnm hlk hrt => ?_
  have N0 := Fr.nil n0
  have lt_P0 : @LT.lt Nat _ a1 (Array.size h0) := P0.lt
  have lt_P3 : @LT.lt Nat _ ta (Array.size h0) := P3.lt
  refine own_ru 1 [(.ref a1)] X0 hx hby e6_0_1 rfl rfl ?_
  refine own_gF X0 hx hZ hown (host := "") (Or.inl (wd25 hw)) Via.refl e0 P1 4 rfl (hb hby d6_1) rfl fun T31 X31 e31 => ?_
  refine own_aL X31 hx hZ e31 P3 5 rfl (hb hby d6_4) rfl ?_
  refine own_ru 6 [(.ref a1), (.int zz)] X31 hx hby e6_5_1 rfl rfl ?_
  refine own_cV X31 hx hZ hown (wd36 hw) (wd37 hw) (notFace_of_selects (args := #[]) (mvT hZ (wd39 hw))) (wd39 hw) (wd38 hw) (by decide) (wd40 hw) (wd8 hw) (rm7d1 l Z a0 hw [] G1 G2 a1 h0 n0 (by omega) OLD A P2) e31 P0 [] [(.int zz)] 9 1 (hb hby d6_6) rfl (by rw [hml]; rfl) rfl rfl (lenOf pd_0 rfl) rfl (by decide) fun v32 T32 Lc32 X32 hQ32 => ?_
  obtain ⟨rfl, N32q, e32⟩ := hQ32
  have N32 := Fr.app N0 N32q
  refine own_ru 10 [(.int (zz >>> ((1 : Int32) &&& 31)))] X32 hx hby e6_9_1 rfl rfl ?_
  have hq33 : Q6d1 Z G1 G2 a1 ta kt zz vs h0 n0 (some (.int (zz >>> ((1 : Int32) &&& 31)))) h0 _ := ⟨rfl, N32, rfl⟩
  exact own_retI X32 hx hlk hrt (hb hby d6_10) e32 hq33 (by decide) (by decide)
abbrev my29 : MethodName := (⟨"java/lang/StringUTF16", "length", "([B)I"⟩ : MethodName)
theorem d29_1 : decode jdk_52_method_6_code 1 = .ok (.arraylength, 1) := by decide +kernel
theorem d29_4 : decode jdk_52_method_6_code 4 = .ok (.ireturn, 1) := by decide +kernel
theorem e29_0_1 : own_dec jdk_52_method_6_code 0 [(.aload_n 0, 1)] = true := by decide +kernel
theorem e29_2_2 : own_dec jdk_52_method_6_code 2 [(.iconst 1, 1), (.ishr, 1)] = true := by decide +kernel
theorem pn_3 : plainName "java/lang/StringUTF16" = true := by first | (simp [plainName, overriddenIn]; done) | decide +kernel
def Q29 (Z : State) (a1 : Addr) (kk : ClassId) (zz : Int32) (vs : List Value) (h0 : Heap) (n0 : Nat) (v : Option Value) (h : Heap) (L : List Loc) : Prop := v = some (.int (zz >>> ((1 : Int32) &&& 31))) ∧ Fr n0 L ∧ h = h0
set_option maxRecDepth 65536 in
set_option maxHeartbeats 40000000 in
theorem rm29 (l : Launch) (Z : State) (a0 : Array Value) (hw : OW a0 Z) (ws : List Jvm.Cond) (a1 : Addr) (kk : ClassId) (zz : Int32) (vs : List Value) (h0 : Heap) (n0 : Nat) (Z0 : n0 ≤ h0.size) (P0 : Arv Z h0 a1 kk .byte zz vs (.int (0 : Int32))) :
    own_Met l my29 jdk_52_method_6_code 1 (some .int) ws (own_rm 0 0 0 0) #[(.ref a1)] Z h0 (Q29 Z a1 kk zz vs h0 n0) 0 0 := by
  refine own_body (plainFor_of_name pn_3) (fun m => by first | (simp [entryFrame, mkF, argsToLocals, Value.category]; done) | rfl) (Ls := #[.val (.ref a1)]) fun p e s m below meth c s₁ X0 hx hby hml hZ e0 hown hnm hlk hrt => ?_
  have N0 := Fr.nil n0
  have lt_P0 : @LT.lt Nat _ a1 (Array.size h0) := P0.lt
  refine own_ru 1 [(.ref a1)] X0 hx hby e29_0_1 rfl rfl ?_
  refine own_aL X0 hx hZ e0 P0 2 rfl (hb hby d29_1) rfl ?_
  refine own_ru 4 [(.int (zz >>> ((1 : Int32) &&& 31)))] X0 hx hby e29_2_2 rfl rfl ?_
  have hq34 : Q29 Z a1 kk zz vs h0 n0 (some (.int (zz >>> ((1 : Int32) &&& 31)))) h0 _ := ⟨rfl, N0, rfl⟩
  exact own_retI X0 hx hlk hrt (hb hby d29_4) e0 hq34 (by decide) (by decide)
abbrev my15 : MethodName := (⟨"jdk/internal/util/Preconditions", "checkIndex", "(IILjava/util/function/BiFunction;)I"⟩ : MethodName)
theorem d15_1 : decode jdk_41_method_11_code 1 = .ok (.ifCond .lt 8, 3) := by decide +kernel
theorem d15_6 : decode jdk_41_method_11_code 6 = .ok (.if_icmp .lt 10, 3) := by decide +kernel
theorem d15_17 : decode jdk_41_method_11_code 17 = .ok (.ireturn, 1) := by decide +kernel
theorem e15_0_1 : own_dec jdk_41_method_11_code 0 [(.iload_n 0, 1)] = true := by decide +kernel
theorem e15_4_2 : own_dec jdk_41_method_11_code 4 [(.iload_n 0, 1), (.iload_n 1, 1)] = true := by decide +kernel
theorem e15_16_1 : own_dec jdk_41_method_11_code 16 [(.iload_n 0, 1)] = true := by decide +kernel
theorem pn_4 : plainName "jdk/internal/util/Preconditions" = true := by first | (simp [plainName, overriddenIn]; done) | decide +kernel
def Q15 (Z : State) (j1 : Int32) (nn : Int32) (uf : Value) (h0 : Heap) (n0 : Nat) (v : Option Value) (h : Heap) (L : List Loc) : Prop := v = some (.int j1) ∧ Fr n0 L ∧ h = h0
set_option maxRecDepth 65536 in
set_option maxHeartbeats 40000000 in
theorem rm15 (l : Launch) (Z : State) (a0 : Array Value) (hw : OW a0 Z) (ws : List Jvm.Cond) (j1 : Int32) (nn : Int32) (uf : Value) (h0 : Heap) (n0 : Nat) (Z0 : n0 ≤ h0.size) (h_uf : uf.isRef = true) (hi0 : ¬ j1 < (0 : Int32)) (hi1 : j1 < nn) :
    own_Met l my15 jdk_41_method_11_code 3 (some .int) ws (own_rm 0 0 0 0) #[(.int j1), (.int nn), uf] Z h0 (Q15 Z j1 nn uf h0 n0) 0 0 := by
  refine own_body (plainFor_of_name pn_4) (fun m => by first | (simp [entryFrame, mkF, argsToLocals, own_catR, own_catI, own_catJ, own_catN, own_cat1 h_uf]; done) | rfl) (Ls := #[.val (.int j1), .val (.int nn), .val uf]) fun p e s m below meth c s₁ X0 hx hby hml hZ e0 hown hnm hlk hrt => ?_
  have N0 := Fr.nil n0
  refine own_ru 1 [(.int j1)] X0 hx hby e15_0_1 rfl rfl ?_
  refine own_iN 4 X0 hx (hb hby d15_1) rfl ((if0 _ _).trans (flt hi0).1) rfl ?_
  refine own_ru 6 [(.int nn), (.int j1)] X0 hx hby e15_4_2 rfl rfl ?_
  refine own_kY 16 X0 hx (hb hby d15_6) rfl (tlt hi1).1 (by decide) (by decide) ?_
  refine own_ru 17 [(.int j1)] X0 hx hby e15_16_1 rfl rfl ?_
  have hq35 : Q15 Z j1 nn uf h0 n0 (some (.int j1)) h0 _ := ⟨rfl, N0, rfl⟩
  exact own_retI X0 hx hlk hrt (hb hby d15_17) e0 hq35 (by decide) (by decide)
abbrev my14 : MethodName := (⟨"java/lang/String", "checkIndex", "(II)V"⟩ : MethodName)
theorem d14_2 : decode jdk_42_method_155_code 2 = .ok (.getstatic 1053, 3) := by decide +kernel
theorem d14_5 : decode jdk_42_method_155_code 5 = .ok (.invokestatic 1059, 3) := by decide +kernel
theorem d14_9 : decode jdk_42_method_155_code 9 = .ok (.return_, 1) := by decide +kernel
theorem e14_0_2 : own_dec jdk_42_method_155_code 0 [(.iload_n 0, 1), (.iload_n 1, 1)] = true := by decide +kernel
theorem e14_8_1 : own_dec jdk_42_method_155_code 8 [(.pop, 1)] = true := by decide +kernel
theorem pd_1 : parseMethodDescriptor "(IILjava/util/function/BiFunction;)I" = some ⟨[.int, .int, (.object "java/util/function/BiFunction")], some .int⟩ := by decide +kernel
def Q14 (Z : State) (G1 : Int32) (G2 : Value) (j1 : Int32) (nn : Int32) (h0 : Heap) (n0 : Nat) (v : Option Value) (h : Heap) (L : List Loc) : Prop := v = none ∧ Fr n0 L ∧ h = h0
set_option maxRecDepth 65536 in
set_option maxHeartbeats 40000000 in
theorem rm14 (l : Launch) (Z : State) (a0 : Array Value) (hw : OW a0 Z) (ws : List Jvm.Cond) (G1 : Int32) (G2 : Value) (j1 : Int32) (nn : Int32) (h0 : Heap) (n0 : Nat) (Z0 : n0 ≤ h0.size) (OLD : Old Z n0 h0) (A : Amb Z G1 G2) (hi0 : ¬ j1 < (0 : Int32)) (hi1 : j1 < nn) :
    own_Met l my14 jdk_42_method_155_code 2 none ws (own_rm 1 0 0 14) #[(.int j1), (.int nn)] Z h0 (Q14 Z G1 G2 j1 nn h0 n0) 0 0 := by
  refine own_body (plainFor_of_name pn_2) (fun m => by first | (simp [entryFrame, mkF, argsToLocals, Value.category]; done) | rfl) (Ls := #[.val (.int j1), .val (.int nn)]) fun p e s m below meth c s₁ X0 hx hby hml hZ e0 hown hnm hlk hrt => ?_
  have N0 := Fr.nil n0
  have h_G2 := Amb.g2 A
  refine own_ru 2 [(.int nn), (.int j1)] X0 hx hby e14_0_2 rfl rfl ?_
  have f36 : Sta Z h0 "jdk/internal/util/Preconditions" "SIOOBE_FORMATTER" "Ljava/util/function/BiFunction;" G2 := Sta.ext OLD.2 (Amb.a1 A)
  refine own_gS X0 hx hZ hown (host := "") (Or.inl (wd70 hw)) Via.refl e0 f36 5 (hb hby d14_2) rfl fun T37 X37 e37 => ?_
  refine own_cS X37 hx hZ hown (wd72 hw) (wd73 hw) (by decide) (wd74 hw) (wd71 hw) (rm15 l Z a0 hw [] j1 nn G2 h0 n0 (by omega) h_G2 (by first | assumption | decide | omega) (by first | assumption | decide | omega)) e37  [(.int j1), (.int nn), G2] [] 8 0 (hb hby d14_5) rfl (by rw [hml]; rfl) rfl rfl (lenOf pd_1 rfl) rfl (by decide) fun v38 T38 Lc38 X38 hQ38 => ?_
  obtain ⟨rfl, N38q, e38⟩ := hQ38
  have N38 := Fr.app N0 N38q
  refine own_ru 9 [] X38 hx hby e14_8_1 rfl rfl ?_
  have hq39 : Q14 Z G1 G2 j1 nn h0 n0 none h0 _ := ⟨rfl, N38, rfl⟩
  exact own_retV X38 hx hlk hrt (hb hby d14_9) e38 hq39 (by decide) (by decide)
abbrev my28 : MethodName := (⟨"java/lang/StringUTF16", "checkIndex", "(I[B)V"⟩ : MethodName)
theorem d28_2 : decode jdk_52_method_91_code 2 = .ok (.invokestatic 48, 3) := by decide +kernel
theorem d28_5 : decode jdk_52_method_91_code 5 = .ok (.invokestatic 414, 3) := by decide +kernel
theorem d28_8 : decode jdk_52_method_91_code 8 = .ok (.return_, 1) := by decide +kernel
theorem e28_0_2 : own_dec jdk_52_method_91_code 0 [(.iload_n 0, 1), (.aload_n 1, 1)] = true := by decide +kernel
theorem pd_2 : parseMethodDescriptor "([B)I" = some ⟨[(.array .byte)], some .int⟩ := by decide +kernel
theorem pd_3 : parseMethodDescriptor "(II)V" = some ⟨[.int, .int], none⟩ := by decide +kernel
def Q28 (Z : State) (G1 : Int32) (G2 : Value) (j1 : Int32) (va : Addr) (kk : ClassId) (zz : Int32) (vs : List Value) (h0 : Heap) (n0 : Nat) (v : Option Value) (h : Heap) (L : List Loc) : Prop := v = none ∧ Fr n0 L ∧ h = h0
set_option maxRecDepth 65536 in
set_option maxHeartbeats 40000000 in
theorem rm28 (l : Launch) (Z : State) (a0 : Array Value) (hw : OW a0 Z) (ws : List Jvm.Cond) (G1 : Int32) (G2 : Value) (j1 : Int32) (va : Addr) (kk : ClassId) (zz : Int32) (vs : List Value) (h0 : Heap) (n0 : Nat) (Z0 : n0 ≤ h0.size) (OLD : Old Z n0 h0) (A : Amb Z G1 G2) (P0 : Arv Z h0 va kk .byte zz vs (.int (0 : Int32))) (hi0 : ¬ j1 < (0 : Int32)) (hi1 : j1 < (zz >>> ((1 : Int32) &&& 31))) :
    own_Met l my28 jdk_52_method_91_code 2 none ws (own_rm 2 0 0 27) #[(.int j1), (.ref va)] Z h0 (Q28 Z G1 G2 j1 va kk zz vs h0 n0) 0 0 := by
  refine own_body (plainFor_of_name pn_3) (fun m => by first | (simp [entryFrame, mkF, argsToLocals, Value.category]; done) | rfl) (Ls := #[.val (.int j1), .val (.ref va)]) fun p e s m below meth c s₁ X0 hx hby hml hZ e0 hown hnm hlk hrt => ?_
  have N0 := Fr.nil n0
  have lt_P0 : @LT.lt Nat _ va (Array.size h0) := P0.lt
  refine own_ru 2 [(.ref va), (.int j1)] X0 hx hby e28_0_2 rfl rfl ?_
  refine own_cS X0 hx hZ hown (wd123 hw) (wd124 hw) (by decide) (wd125 hw) (wd45 hw) (rm29 l Z a0 hw [] va kk zz vs h0 n0 (by omega) P0) e0  [(.ref va)] [(.int j1)] 5 1 (hb hby d28_2) rfl (by rw [hml]; rfl) rfl rfl (lenOf pd_2 rfl) rfl (by decide) fun v40 T40 Lc40 X40 hQ40 => ?_
  obtain ⟨rfl, N40q, e40⟩ := hQ40
  have N40 := Fr.app N0 N40q
  refine own_cS X40 hx hZ hown (wd126 hw) (wd68 hw) (by decide) (wd69 hw) (wd8 hw) (rm14 l Z a0 hw [] G1 G2 j1 (zz >>> ((1 : Int32) &&& 31)) h0 n0 (by omega) OLD A (by first | assumption | decide | omega) (by first | assumption | decide | omega)) e40  [(.int j1), (.int (zz >>> ((1 : Int32) &&& 31)))] [] 8 0 (hb hby d28_5) rfl (by rw [hml]; rfl) rfl rfl (lenOf pd_3 rfl) rfl (by decide) fun v41 T41 Lc41 X41 hQ41 => ?_
  obtain ⟨rfl, N41q, e41⟩ := hQ41
  have N41 := Fr.app N40 N41q
  have hq42 : Q28 Z G1 G2 j1 va kk zz vs h0 n0 none h0 _ := ⟨rfl, N41, rfl⟩
  exact own_retV X41 hx hlk hrt (hb hby d28_8) e41 hq42 (by decide) (by decide)
abbrev my13 : MethodName := (⟨"java/lang/StringLatin1", "charAt", "([BI)C"⟩ : MethodName)
theorem d13_2 : decode jdk_43_method_2_code 2 = .ok (.arraylength, 1) := by decide +kernel
theorem d13_3 : decode jdk_43_method_2_code 3 = .ok (.invokestatic 9, 3) := by decide +kernel
theorem d13_8 : decode jdk_43_method_2_code 8 = .ok (.baload, 1) := by decide +kernel
theorem d13_14 : decode jdk_43_method_2_code 14 = .ok (.ireturn, 1) := by decide +kernel
theorem e13_0_2 : own_dec jdk_43_method_2_code 0 [(.iload_n 1, 1), (.aload_n 0, 1)] = true := by decide +kernel
theorem e13_6_2 : own_dec jdk_43_method_2_code 6 [(.aload_n 0, 1), (.iload_n 1, 1)] = true := by decide +kernel
theorem e13_9_3 : own_dec jdk_43_method_2_code 9 [(.sipush 255, 3), (.iand, 1), (.i2c, 1)] = true := by decide +kernel
theorem pn_5 : plainName "java/lang/StringLatin1" = true := by first | (simp [plainName, overriddenIn]; done) | decide +kernel
def Q13 (Z : State) (G1 : Int32) (G2 : Value) (ta : Addr) (j1 : Int32) (kt : ClassId) (zz : Int32) (vs : List Value) (y1 : Int32) (h0 : Heap) (n0 : Nat) (v : Option Value) (h : Heap) (L : List Loc) : Prop := v = some (.int (own_lc y1)) ∧ Fr n0 L ∧ h = h0
set_option maxRecDepth 65536 in
set_option maxHeartbeats 40000000 in
theorem rm13 (l : Launch) (Z : State) (a0 : Array Value) (hw : OW a0 Z) (ws : List Jvm.Cond) (G1 : Int32) (G2 : Value) (ta : Addr) (j1 : Int32) (kt : ClassId) (zz : Int32) (vs : List Value) (y1 : Int32) (h0 : Heap) (n0 : Nat) (Z0 : n0 ≤ h0.size) (OLD : Old Z n0 h0) (A : Amb Z G1 G2) (P0 : Arv Z h0 ta kt .byte zz vs (.int (0 : Int32))) (hi0 : ¬ j1 < (0 : Int32)) (hi1 : j1 < zz) (hv : vs.getD (j1).toNatClampNeg (.int (0 : Int32)) = .int y1) :
    own_Met l my13 jdk_43_method_2_code 2 (some .char) ws (own_rm 2 0 0 27) #[(.ref ta), (.int j1)] Z h0 (Q13 Z G1 G2 ta j1 kt zz vs y1 h0 n0) 0 0 := by
  refine own_body (plainFor_of_name pn_5) (fun m => by first | (simp [entryFrame, mkF, argsToLocals, Value.category]; done) | rfl) (Ls := #[.val (.ref ta), .val (.int j1)]) fun p e s m below meth c s₁ X0 hx hby hml hZ e0 hown hnm hlk hrt => ?_
  have N0 := Fr.nil n0
  have lt_P0 : @LT.lt Nat _ ta (Array.size h0) := P0.lt
  refine own_ru 2 [(.ref ta), (.int j1)] X0 hx hby e13_0_2 rfl rfl ?_
  refine own_aL X0 hx hZ e0 P0 3 rfl (hb hby d13_2) rfl ?_
  refine own_cS X0 hx hZ hown (wd67 hw) (wd68 hw) (by decide) (wd69 hw) (wd8 hw) (rm14 l Z a0 hw [] G1 G2 j1 zz h0 n0 (by omega) OLD A hi0 hi1) e0  [(.int j1), (.int zz)] [] 6 0 (hb hby d13_3) rfl (by rw [hml]; rfl) rfl rfl (lenOf pd_3 rfl) rfl (by decide) fun v43 T43 Lc43 X43 hQ43 => ?_
  obtain ⟨rfl, N43q, e43⟩ := hQ43
  have N43 := Fr.app N0 N43q
  refine own_ru 8 [(.int j1), (.ref ta)] X43 hx hby e13_6_2 rfl rfl ?_
  refine own_bL X43 hx hZ e43 P0 (x := y1) 9 rfl (hb hby d13_8) rfl ⟨hi0, hi1⟩ hv ?_
  refine own_ru 14 [(.int ((y1 &&& (255 : Int32)).toUInt32.toUInt16.toUInt32.toInt32))] X43 hx hby e13_9_3 rfl rfl ?_
  have hq44 : Q13 Z G1 G2 ta j1 kt zz vs y1 h0 n0 (some (.int (nar .char ((y1 &&& (255 : Int32)).toUInt32.toUInt16.toUInt32.toInt32)))) h0 _ := ⟨rfl, N43, rfl⟩
  exact own_retN X43 hx hlk (t := .char) hrt (by simp) (hb hby d13_14) e43 hq44 (by decide) (by decide)
abbrev my26 : MethodName := (⟨"java/lang/StringUTF16", "getChar", "([BI)C"⟩ : MethodName)
theorem d26_0 : decode jdk_52_method_5_code 0 = .ok (.getstatic 44, 3) := by decide +kernel
theorem d26_3 : decode jdk_52_method_5_code 3 = .ok (.ifCond .ne 25, 3) := by decide +kernel
theorem d26_37 : decode jdk_52_method_5_code 37 = .ok (.baload, 1) := by decide +kernel
theorem d26_42 : decode jdk_52_method_5_code 42 = .ok (.getstatic 59, 3) := by decide +kernel
theorem d26_48 : decode jdk_52_method_5_code 48 = .ok (.baload, 1) := by decide +kernel
theorem d26_53 : decode jdk_52_method_5_code 53 = .ok (.getstatic 63, 3) := by decide +kernel
theorem d26_59 : decode jdk_52_method_5_code 59 = .ok (.ireturn, 1) := by decide +kernel
theorem e26_28_7 : own_dec jdk_52_method_5_code 28 [(.iload_n 1, 1), (.iconst 1, 1), (.ishl, 1), (.istore_n 1, 1), (.aload_n 0, 1), (.iload_n 1, 1), (.iinc 1 1, 3)] = true := by decide +kernel
theorem e26_38_2 : own_dec jdk_52_method_5_code 38 [(.sipush 255, 3), (.iand, 1)] = true := by decide +kernel
theorem e26_45_3 : own_dec jdk_52_method_5_code 45 [(.ishl, 1), (.aload_n 0, 1), (.iload_n 1, 1)] = true := by decide +kernel
theorem e26_49_2 : own_dec jdk_52_method_5_code 49 [(.sipush 255, 3), (.iand, 1)] = true := by decide +kernel
theorem e26_56_3 : own_dec jdk_52_method_5_code 56 [(.ishl, 1), (.ior, 1), (.i2c, 1)] = true := by decide +kernel
def Q26 (Z : State) (G1 : Int32) (G2 : Value) (ta : Addr) (j1 : Int32) (kt : ClassId) (zz : Int32) (vs : List Value) (y1 : Int32) (z1 : Int32) (h0 : Heap) (n0 : Nat) (v : Option Value) (h : Heap) (L : List Loc) : Prop := v = some (.int (own_u y1 z1)) ∧ Fr n0 L ∧ h = h0
set_option maxRecDepth 65536 in
set_option maxHeartbeats 40000000 in
theorem rm26 (l : Launch) (Z : State) (a0 : Array Value) (hw : OW a0 Z) (ws : List Jvm.Cond) (G1 : Int32) (G2 : Value) (ta : Addr) (j1 : Int32) (kt : ClassId) (zz : Int32) (vs : List Value) (y1 : Int32) (z1 : Int32) (h0 : Heap) (n0 : Nat) (Z0 : n0 ≤ h0.size) (OLD : Old Z n0 h0) (A : Amb Z G1 G2) (P0 : Arv Z h0 ta kt .byte zz vs (.int (0 : Int32))) (hu0 : ¬ (j1 <<< ((1 : Int32) &&& 31)) < (0 : Int32) ∧ (j1 <<< ((1 : Int32) &&& 31)) < zz) (hu1 : ¬ ((j1 <<< ((1 : Int32) &&& 31)) + (1 : Int32)) < (0 : Int32) ∧ ((j1 <<< ((1 : Int32) &&& 31)) + (1 : Int32)) < zz) (hv : vs.getD ((j1 <<< ((1 : Int32) &&& 31))).toNatClampNeg (.int (0 : Int32)) = .int y1) (hw1 : vs.getD (((j1 <<< ((1 : Int32) &&& 31)) + (1 : Int32))).toNatClampNeg (.int (0 : Int32)) = .int z1) :
    own_Met l my26 jdk_52_method_5_code 2 (some .char) ws (own_rm 0 0 0 0) #[(.ref ta), (.int j1)] Z h0 (Q26 Z G1 G2 ta j1 kt zz vs y1 z1 h0 n0) 0 0 := by
  refine own_body (plainFor_of_name pn_3) (fun m => by first | (simp [entryFrame, mkF, argsToLocals, Value.category]; done) | rfl) (Ls := #[.val (.ref ta), .val (.int j1)]) fun p e s m below meth c s₁ X0 hx hby hml hZ e0 hown hnm hlk hrt => ?_
  have N0 := Fr.nil n0
  have lt_P0 : @LT.lt Nat _ ta (Array.size h0) := P0.lt
  have f45 : Sta Z h0 "java/lang/StringUTF16" "$assertionsDisabled" "Z" (.int (1 : Int32)) := Sta.ext OLD.2 (Amb.a2 A)
  refine own_gS X0 hx hZ hown (host := "") (Or.inl (wd111 hw)) Via.refl e0 f45 3 (hb hby d26_0) rfl fun T46 X46 e46 => ?_
  refine own_iY 28 X46 hx (hb hby d26_3) rfl ((if0 _ _).trans (feq (by decide : ¬ ((1 : Int32) = (0 : Int32)))).2) (by decide) (by decide) ?_
  refine own_rl 37 #[.val (.ref ta), .val (.int ((j1 <<< ((1 : Int32) &&& 31)) + (1 : Int32)))] [(.int (j1 <<< ((1 : Int32) &&& 31))), (.ref ta)] X46 hx hby e26_28_7 rfl rfl ?_
  refine own_bL X46 hx hZ e46 P0 (x := y1) 38 rfl (hb hby d26_37) rfl hu0 hv ?_
  refine own_ru 42 [(.int (y1 &&& (255 : Int32)))] X46 hx hby e26_38_2 rfl rfl ?_
  have f47 : Sta Z h0 "java/lang/StringUTF16" "HI_BYTE_SHIFT" "I" (.int (0 : Int32)) := Sta.ext OLD.2 (Amb.a3 A)
  refine own_gS X46 hx hZ hown (host := "") (Or.inl (wd112 hw)) Via.refl e46 f47 45 (hb hby d26_42) rfl fun T48 X48 e48 => ?_
  refine own_ru 48 [(.int ((j1 <<< ((1 : Int32) &&& 31)) + (1 : Int32))), (.ref ta), (.int ((y1 &&& (255 : Int32)) <<< ((0 : Int32) &&& 31)))] X48 hx hby e26_45_3 rfl rfl ?_
  refine own_bL X48 hx hZ e48 P0 (x := z1) 49 rfl (hb hby d26_48) rfl hu1 hw1 ?_
  refine own_ru 53 [(.int (z1 &&& (255 : Int32))), (.int ((y1 &&& (255 : Int32)) <<< ((0 : Int32) &&& 31)))] X48 hx hby e26_49_2 rfl rfl ?_
  have f49 : Sta Z h0 "java/lang/StringUTF16" "LO_BYTE_SHIFT" "I" (.int (8 : Int32)) := Sta.ext OLD.2 (Amb.a4 A)
  refine own_gS X48 hx hZ hown (host := "") (Or.inl (wd113 hw)) Via.refl e48 f49 56 (hb hby d26_53) rfl fun T50 X50 e50 => ?_
  refine own_ru 59 [(.int ((((y1 &&& (255 : Int32)) <<< ((0 : Int32) &&& 31)) ||| ((z1 &&& (255 : Int32)) <<< ((8 : Int32) &&& 31))).toUInt32.toUInt16.toUInt32.toInt32))] X50 hx hby e26_56_3 rfl rfl ?_
  have hq51 : Q26 Z G1 G2 ta j1 kt zz vs y1 z1 h0 n0 (some (.int (nar .char ((((y1 &&& (255 : Int32)) <<< ((0 : Int32) &&& 31)) ||| ((z1 &&& (255 : Int32)) <<< ((8 : Int32) &&& 31))).toUInt32.toUInt16.toUInt32.toInt32)))) h0 _ := ⟨rfl, N0, rfl⟩
  exact own_retN X50 hx hlk (t := .char) hrt (by simp) (hb hby d26_59) e50 hq51 (by decide) (by decide)
abbrev my27 : MethodName := (⟨"java/lang/StringUTF16", "charAt", "([BI)C"⟩ : MethodName)
theorem d27_2 : decode jdk_52_method_83_code 2 = .ok (.invokestatic 67, 3) := by decide +kernel
theorem d27_7 : decode jdk_52_method_83_code 7 = .ok (.invokestatic 71, 3) := by decide +kernel
theorem d27_10 : decode jdk_52_method_83_code 10 = .ok (.ireturn, 1) := by decide +kernel
theorem e27_0_2 : own_dec jdk_52_method_83_code 0 [(.iload_n 1, 1), (.aload_n 0, 1)] = true := by decide +kernel
theorem e27_5_2 : own_dec jdk_52_method_83_code 5 [(.aload_n 0, 1), (.iload_n 1, 1)] = true := by decide +kernel
theorem pd_4 : parseMethodDescriptor "(I[B)V" = some ⟨[.int, (.array .byte)], none⟩ := by decide +kernel
theorem pd_5 : parseMethodDescriptor "([BI)C" = some ⟨[(.array .byte), .int], some .char⟩ := by decide +kernel
def Q27 (Z : State) (G1 : Int32) (G2 : Value) (ta : Addr) (j1 : Int32) (kt : ClassId) (zz : Int32) (vs : List Value) (y1 : Int32) (z1 : Int32) (h0 : Heap) (n0 : Nat) (v : Option Value) (h : Heap) (L : List Loc) : Prop := v = some (.int (own_u y1 z1)) ∧ Fr n0 L ∧ h = h0
set_option maxRecDepth 65536 in
set_option maxHeartbeats 40000000 in
theorem rm27 (l : Launch) (Z : State) (a0 : Array Value) (hw : OW a0 Z) (ws : List Jvm.Cond) (G1 : Int32) (G2 : Value) (ta : Addr) (j1 : Int32) (kt : ClassId) (zz : Int32) (vs : List Value) (y1 : Int32) (z1 : Int32) (h0 : Heap) (n0 : Nat) (Z0 : n0 ≤ h0.size) (OLD : Old Z n0 h0) (A : Amb Z G1 G2) (P0 : Arv Z h0 ta kt .byte zz vs (.int (0 : Int32))) (hi0 : ¬ j1 < (0 : Int32)) (hi1 : j1 < (zz >>> ((1 : Int32) &&& 31))) (hu0 : ¬ (j1 <<< ((1 : Int32) &&& 31)) < (0 : Int32) ∧ (j1 <<< ((1 : Int32) &&& 31)) < zz) (hu1 : ¬ ((j1 <<< ((1 : Int32) &&& 31)) + (1 : Int32)) < (0 : Int32) ∧ ((j1 <<< ((1 : Int32) &&& 31)) + (1 : Int32)) < zz) (hv : vs.getD ((j1 <<< ((1 : Int32) &&& 31))).toNatClampNeg (.int (0 : Int32)) = .int y1) (hw1 : vs.getD (((j1 <<< ((1 : Int32) &&& 31)) + (1 : Int32))).toNatClampNeg (.int (0 : Int32)) = .int z1) :
    own_Met l my27 jdk_52_method_83_code 2 (some .char) ws (own_rm 3 0 0 40) #[(.ref ta), (.int j1)] Z h0 (Q27 Z G1 G2 ta j1 kt zz vs y1 z1 h0 n0) 0 0 := by
  refine own_body (plainFor_of_name pn_3) (fun m => by first | (simp [entryFrame, mkF, argsToLocals, Value.category]; done) | rfl) (Ls := #[.val (.ref ta), .val (.int j1)]) fun p e s m below meth c s₁ X0 hx hby hml hZ e0 hown hnm hlk hrt => ?_
  have N0 := Fr.nil n0
  have lt_P0 : @LT.lt Nat _ ta (Array.size h0) := P0.lt
  refine own_ru 2 [(.ref ta), (.int j1)] X0 hx hby e27_0_2 rfl rfl ?_
  refine own_cS X0 hx hZ hown (wd120 hw) (wd121 hw) (by decide) (wd122 hw) (wd45 hw) (rm28 l Z a0 hw [] G1 G2 j1 ta kt zz vs h0 n0 (by omega) OLD A P0 hi0 hi1) e0  [(.int j1), (.ref ta)] [] 5 0 (hb hby d27_2) rfl (by rw [hml]; rfl) rfl rfl (lenOf pd_4 rfl) rfl (by decide) fun v52 T52 Lc52 X52 hQ52 => ?_
  obtain ⟨rfl, N52q, e52⟩ := hQ52
  have N52 := Fr.app N0 N52q
  refine own_ru 7 [(.int j1), (.ref ta)] X52 hx hby e27_5_2 rfl rfl ?_
  refine own_cS X52 hx hZ hown (wd114 hw) (wd115 hw) (by decide) (wd116 hw) (wd45 hw) (rm26 l Z a0 hw [] G1 G2 ta j1 kt zz vs y1 z1 h0 n0 (by omega) OLD A P0 hu0 hu1 hv hw1) e52  [(.ref ta), (.int j1)] [] 10 0 (hb hby d27_7) rfl (by rw [hml]; rfl) rfl rfl (lenOf pd_5 rfl) rfl (by decide) fun v53 T53 Lc53 X53 hQ53 => ?_
  obtain ⟨rfl, N53q, e53⟩ := hQ53
  have N53 := Fr.app N52 N53q
  have hq54 : Q27 Z G1 G2 ta j1 kt zz vs y1 z1 h0 n0 (some (.int (nar .char (own_u y1 z1)))) h0 _ := ⟨(own_sI (own_nn _)), N53, rfl⟩
  exact own_retN X53 hx hlk (t := .char) hrt (by simp) (hb hby d27_10) e53 hq54 (by decide) (by decide)
abbrev my11 : MethodName := (⟨"java/lang/String", "charAt", "(I)C"⟩ : MethodName)
theorem d11_1 : decode jdk_42_method_56_code 1 = .ok (.invokevirtual 492, 3) := by decide +kernel
theorem d11_4 : decode jdk_42_method_56_code 4 = .ok (.ifCond .eq 12, 3) := by decide +kernel
theorem d11_8 : decode jdk_42_method_56_code 8 = .ok (.getfield 9, 3) := by decide +kernel
theorem d11_12 : decode jdk_42_method_56_code 12 = .ok (.invokestatic 495, 3) := by decide +kernel
theorem d11_15 : decode jdk_42_method_56_code 15 = .ok (.ireturn, 1) := by decide +kernel
theorem e11_0_1 : own_dec jdk_42_method_56_code 0 [(.aload_n 0, 1)] = true := by decide +kernel
theorem e11_7_1 : own_dec jdk_42_method_56_code 7 [(.aload_n 0, 1)] = true := by decide +kernel
theorem e11_11_1 : own_dec jdk_42_method_56_code 11 [(.iload_n 1, 1)] = true := by decide +kernel
theorem pd_6 : parseMethodDescriptor "()Z" = some ⟨[], some .boolean⟩ := by decide +kernel
def Q11l (Z : State) (G1 : Int32) (G2 : Value) (a1 : Addr) (j1 : Int32) (ta : Addr) (kt : ClassId) (zz : Int32) (vs : List Value) (y1 : Int32) (h0 : Heap) (n0 : Nat) (v : Option Value) (h : Heap) (L : List Loc) : Prop := v = some (.int (own_lc y1)) ∧ Fr n0 L ∧ h = h0
set_option maxRecDepth 65536 in
set_option maxHeartbeats 40000000 in
theorem rm11l (l : Launch) (Z : State) (a0 : Array Value) (hw : OW a0 Z) (ws : List Jvm.Cond) (G1 : Int32) (G2 : Value) (a1 : Addr) (j1 : Int32) (ta : Addr) (kt : ClassId) (zz : Int32) (vs : List Value) (y1 : Int32) (h0 : Heap) (n0 : Nat) (Z0 : n0 ≤ h0.size) (OLD : Old Z n0 h0) (A : Amb Z G1 G2) (P0 : ex1 Z h0 a1) (P1 : fl2 Z h0 a1 (.ref ta)) (P2 : fl0 Z h0 a1 (.int (0 : Int32))) (P3 : Arv Z h0 ta kt .byte zz vs (.int (0 : Int32))) (hi0 : ¬ j1 < (0 : Int32)) (hi1 : j1 < zz) (hv : vs.getD (j1).toNatClampNeg (.int (0 : Int32)) = .int y1) :
    own_Met l my11 jdk_42_method_56_code 2 (some .char) ws (own_rm 3 0 0 40) #[(.ref a1), (.int j1)] Z h0 (Q11l Z G1 G2 a1 j1 ta kt zz vs y1 h0 n0) 0 0 := by
  refine own_body (plainFor_of_name pn_2) (fun m => by first | (simp [entryFrame, mkF, argsToLocals, Value.category]; done) | rfl) (Ls := #[.val (.ref a1), .val (.int j1)]) fun p e s m below meth c s₁ X0 hx hby hml hZ e0 hown hnm hlk hrt => ?_
  have N0 := Fr.nil n0
  have lt_P0 : @LT.lt Nat _ a1 (Array.size h0) := P0.lt
  have lt_P3 : @LT.lt Nat _ ta (Array.size h0) := P3.lt
  refine own_ru 1 [(.ref a1)] X0 hx hby e11_0_1 rfl rfl ?_
  refine own_cV X0 hx hZ hown (wd58 hw) (wd59 hw) (notFace_of_selects (args := #[]) (mvT hZ (wd61 hw))) (wd61 hw) (wd60 hw) (by decide) (wd62 hw) (wd8 hw) (rm12d0 l Z a0 hw [] G1 G2 a1 h0 n0 (by omega) OLD A P2) e0 P0 [] [] 4 0 (hb hby d11_1) rfl (by rw [hml]; rfl) rfl rfl (lenOf pd_6 rfl) rfl (by decide) fun v55 T55 Lc55 X55 hQ55 => ?_
  obtain ⟨rfl, N55q, e55⟩ := hQ55
  have N55 := Fr.app N0 N55q
  refine own_iN 7 X55 hx (hb hby d11_4) rfl ((if0 _ _).trans (feq (by decide : ¬ ((1 : Int32) = (0 : Int32)))).1) rfl ?_
  refine own_ru 8 [(.ref a1)] X55 hx hby e11_7_1 rfl rfl ?_
  refine own_gF X55 hx hZ hown (host := "") (Or.inl (wd25 hw)) Via.refl e55 P1 11 rfl (hb hby d11_8) rfl fun T56 X56 e56 => ?_
  refine own_ru 12 [(.int j1), (.ref ta)] X56 hx hby e11_11_1 rfl rfl ?_
  refine own_cS X56 hx hZ hown (wd63 hw) (wd64 hw) (by decide) (wd66 hw) (wd65 hw) (rm13 l Z a0 hw [] G1 G2 ta j1 kt zz vs y1 h0 n0 (by omega) OLD A P3 hi0 hi1 hv) e56  [(.ref ta), (.int j1)] [] 15 0 (hb hby d11_12) rfl (by rw [hml]; rfl) rfl rfl (lenOf pd_5 rfl) rfl (by decide) fun v57 T57 Lc57 X57 hQ57 => ?_
  obtain ⟨rfl, N57q, e57⟩ := hQ57
  have N57 := Fr.app N55 N57q
  have hq58 : Q11l Z G1 G2 a1 j1 ta kt zz vs y1 h0 n0 (some (.int (nar .char (own_lc y1)))) h0 _ := ⟨(own_sI (own_nn _)), N57, rfl⟩
  exact own_retN X57 hx hlk (t := .char) hrt (by simp) (hb hby d11_15) e57 hq58 (by decide) (by decide)
theorem d11_17 : decode jdk_42_method_56_code 17 = .ok (.getfield 9, 3) := by decide +kernel
theorem d11_21 : decode jdk_42_method_56_code 21 = .ok (.invokestatic 498, 3) := by decide +kernel
theorem d11_24 : decode jdk_42_method_56_code 24 = .ok (.ireturn, 1) := by decide +kernel
theorem e11_16_1 : own_dec jdk_42_method_56_code 16 [(.aload_n 0, 1)] = true := by decide +kernel
theorem e11_20_1 : own_dec jdk_42_method_56_code 20 [(.iload_n 1, 1)] = true := by decide +kernel
def Q11u (Z : State) (G1 : Int32) (G2 : Value) (a1 : Addr) (j1 : Int32) (ta : Addr) (kt : ClassId) (zz : Int32) (vs : List Value) (y1 : Int32) (z1 : Int32) (h0 : Heap) (n0 : Nat) (v : Option Value) (h : Heap) (L : List Loc) : Prop := v = some (.int (own_u y1 z1)) ∧ Fr n0 L ∧ h = h0
set_option maxRecDepth 65536 in
set_option maxHeartbeats 40000000 in
theorem rm11u (l : Launch) (Z : State) (a0 : Array Value) (hw : OW a0 Z) (ws : List Jvm.Cond) (G1 : Int32) (G2 : Value) (a1 : Addr) (j1 : Int32) (ta : Addr) (kt : ClassId) (zz : Int32) (vs : List Value) (y1 : Int32) (z1 : Int32) (h0 : Heap) (n0 : Nat) (Z0 : n0 ≤ h0.size) (OLD : Old Z n0 h0) (A : Amb Z G1 G2) (P0 : ex1 Z h0 a1) (P1 : fl2 Z h0 a1 (.ref ta)) (P2 : fl0 Z h0 a1 (.int (1 : Int32))) (P3 : Arv Z h0 ta kt .byte zz vs (.int (0 : Int32))) (hi0 : ¬ j1 < (0 : Int32)) (hi1 : j1 < (zz >>> ((1 : Int32) &&& 31))) (hu0 : ¬ (j1 <<< ((1 : Int32) &&& 31)) < (0 : Int32) ∧ (j1 <<< ((1 : Int32) &&& 31)) < zz) (hu1 : ¬ ((j1 <<< ((1 : Int32) &&& 31)) + (1 : Int32)) < (0 : Int32) ∧ ((j1 <<< ((1 : Int32) &&& 31)) + (1 : Int32)) < zz) (hv : vs.getD ((j1 <<< ((1 : Int32) &&& 31))).toNatClampNeg (.int (0 : Int32)) = .int y1) (hw1 : vs.getD (((j1 <<< ((1 : Int32) &&& 31)) + (1 : Int32))).toNatClampNeg (.int (0 : Int32)) = .int z1) :
    own_Met l my11 jdk_42_method_56_code 2 (some .char) ws (own_rm 4 0 0 53) #[(.ref a1), (.int j1)] Z h0 (Q11u Z G1 G2 a1 j1 ta kt zz vs y1 z1 h0 n0) 0 0 := by
  refine own_body (plainFor_of_name pn_2) (fun m => by first | (simp [entryFrame, mkF, argsToLocals, Value.category]; done) | rfl) (Ls := #[.val (.ref a1), .val (.int j1)]) fun p e s m below meth c s₁ X0 hx hby hml hZ e0 hown hnm hlk hrt => ?_
  have N0 := Fr.nil n0
  have lt_P0 : @LT.lt Nat _ a1 (Array.size h0) := P0.lt
  have lt_P3 : @LT.lt Nat _ ta (Array.size h0) := P3.lt
  refine own_ru 1 [(.ref a1)] X0 hx hby e11_0_1 rfl rfl ?_
  refine own_cV X0 hx hZ hown (wd58 hw) (wd59 hw) (notFace_of_selects (args := #[]) (mvT hZ (wd61 hw))) (wd61 hw) (wd60 hw) (by decide) (wd62 hw) (wd8 hw) (rm12d1 l Z a0 hw [] G1 G2 a1 h0 n0 (by omega) OLD A P2) e0 P0 [] [] 4 0 (hb hby d11_1) rfl (by rw [hml]; rfl) rfl rfl (lenOf pd_6 rfl) rfl (by decide) fun v59 T59 Lc59 X59 hQ59 => ?_
  obtain ⟨rfl, N59q, e59⟩ := hQ59
  have N59 := Fr.app N0 N59q
  refine own_iY 16 X59 hx (hb hby d11_4) rfl ((if0 _ _).trans (teq (by decide : ((0 : Int32) = (0 : Int32)))).1) (by decide) (by decide) ?_
  refine own_ru 17 [(.ref a1)] X59 hx hby e11_16_1 rfl rfl ?_
  refine own_gF X59 hx hZ hown (host := "") (Or.inl (wd25 hw)) Via.refl e59 P1 20 rfl (hb hby d11_17) rfl fun T60 X60 e60 => ?_
  refine own_ru 21 [(.int j1), (.ref ta)] X60 hx hby e11_20_1 rfl rfl ?_
  refine own_cS X60 hx hZ hown (wd117 hw) (wd118 hw) (by decide) (wd119 hw) (wd45 hw) (rm27 l Z a0 hw [] G1 G2 ta j1 kt zz vs y1 z1 h0 n0 (by omega) OLD A P3 hi0 hi1 hu0 hu1 hv hw1) e60  [(.ref ta), (.int j1)] [] 24 0 (hb hby d11_21) rfl (by rw [hml]; rfl) rfl rfl (lenOf pd_5 rfl) rfl (by decide) fun v61 T61 Lc61 X61 hQ61 => ?_
  obtain ⟨rfl, N61q, e61⟩ := hQ61
  have N61 := Fr.app N59 N61q
  have hq62 : Q11u Z G1 G2 a1 j1 ta kt zz vs y1 z1 h0 n0 (some (.int (nar .char (own_u y1 z1)))) h0 _ := ⟨(own_sI (own_nn _)), N61, rfl⟩
  exact own_retN X61 hx hlk (t := .char) hrt (by simp) (hb hby d11_24) e61 hq62 (by decide) (by decide)
abbrev my25 : MethodName := (⟨"java/lang/StringUTF16", "putChar", "([BII)V"⟩ : MethodName)
theorem d25_0 : decode jdk_52_method_4_code 0 = .ok (.getstatic 44, 3) := by decide +kernel
theorem d25_3 : decode jdk_52_method_4_code 3 = .ok (.ifCond .ne 25, 3) := by decide +kernel
theorem d25_38 : decode jdk_52_method_4_code 38 = .ok (.getstatic 59, 3) := by decide +kernel
theorem d25_43 : decode jdk_52_method_4_code 43 = .ok (.bastore, 1) := by decide +kernel
theorem d25_47 : decode jdk_52_method_4_code 47 = .ok (.getstatic 63, 3) := by decide +kernel
theorem d25_52 : decode jdk_52_method_4_code 52 = .ok (.bastore, 1) := by decide +kernel
theorem d25_53 : decode jdk_52_method_4_code 53 = .ok (.return_, 1) := by decide +kernel
theorem e25_28_8 : own_dec jdk_52_method_4_code 28 [(.iload_n 1, 1), (.iconst 1, 1), (.ishl, 1), (.istore_n 1, 1), (.aload_n 0, 1), (.iload_n 1, 1), (.iinc 1 1, 3), (.iload_n 2, 1)] = true := by decide +kernel
theorem e25_41_2 : own_dec jdk_52_method_4_code 41 [(.ishr, 1), (.i2b, 1)] = true := by decide +kernel
theorem e25_44_3 : own_dec jdk_52_method_4_code 44 [(.aload_n 0, 1), (.iload_n 1, 1), (.iload_n 2, 1)] = true := by decide +kernel
theorem e25_50_2 : own_dec jdk_52_method_4_code 50 [(.ishr, 1), (.i2b, 1)] = true := by decide +kernel
def Q25 (Z : State) (G1 : Int32) (G2 : Value) (va : Addr) (nn : Int32) (q : Int32) (kk : ClassId) (zz : Int32) (vs : List Value) (h0 : Heap) (n0 : Nat) (v : Option Value) (h : Heap) (L : List Loc) : Prop := v = none ∧ Fr n0 L ∧ Keep h0 h [va] ∧ Arv Z h va kk .byte zz ((vs.set ((nn <<< ((1 : Int32) &&& 31))).toNatClampNeg (.int (own_e0 q))).set (((nn <<< ((1 : Int32) &&& 31)) + (1 : Int32))).toNatClampNeg (.int (own_e1 q))) (.int (0 : Int32))
set_option maxRecDepth 65536 in
set_option maxHeartbeats 40000000 in
theorem rm25 (l : Launch) (Z : State) (a0 : Array Value) (hw : OW a0 Z) (ws : List Jvm.Cond) (G1 : Int32) (G2 : Value) (va : Addr) (nn : Int32) (q : Int32) (kk : ClassId) (zz : Int32) (vs : List Value) (h0 : Heap) (n0 : Nat) (Z0 : n0 ≤ h0.size) (OLD : Old Z n0 h0) (A : Amb Z G1 G2) (P0 : Arv Z h0 va kk .byte zz vs (.int (0 : Int32))) (g_va : n0 ≤ va) (hp0 : ¬ (nn <<< ((1 : Int32) &&& 31)) < (0 : Int32) ∧ (nn <<< ((1 : Int32) &&& 31)) < zz) (hp1 : ¬ ((nn <<< ((1 : Int32) &&& 31)) + (1 : Int32)) < (0 : Int32) ∧ ((nn <<< ((1 : Int32) &&& 31)) + (1 : Int32)) < zz) (hl0 : (nn <<< ((1 : Int32) &&& 31)).toNatClampNeg < vs.length) (hl1 : ((nn <<< ((1 : Int32) &&& 31)) + (1 : Int32)).toNatClampNeg < vs.length) :
    own_Met l my25 jdk_52_method_4_code 3 none ws (own_rm 0 0 0 0) #[(.ref va), (.int nn), (.int q)] Z h0 (Q25 Z G1 G2 va nn q kk zz vs h0 n0) 0 0 := by
  refine own_body (plainFor_of_name pn_3) (fun m => by first | (simp [entryFrame, mkF, argsToLocals, Value.category]; done) | rfl) (Ls := #[.val (.ref va), .val (.int nn), .val (.int q)]) fun p e s m below meth c s₁ X0 hx hby hml hZ e0 hown hnm hlk hrt => ?_
  have N0 := Fr.nil n0
  have lt_P0 : @LT.lt Nat _ va (Array.size h0) := P0.lt
  have f63 : Sta Z h0 "java/lang/StringUTF16" "$assertionsDisabled" "Z" (.int (1 : Int32)) := Sta.ext OLD.2 (Amb.a2 A)
  refine own_gS X0 hx hZ hown (host := "") (Or.inl (wd111 hw)) Via.refl e0 f63 3 (hb hby d25_0) rfl fun T64 X64 e64 => ?_
  refine own_iY 28 X64 hx (hb hby d25_3) rfl ((if0 _ _).trans (feq (by decide : ¬ ((1 : Int32) = (0 : Int32)))).2) (by decide) (by decide) ?_
  refine own_rl 38 #[.val (.ref va), .val (.int ((nn <<< ((1 : Int32) &&& 31)) + (1 : Int32))), .val (.int q)] [(.int q), (.int (nn <<< ((1 : Int32) &&& 31))), (.ref va)] X64 hx hby e25_28_8 rfl rfl ?_
  have f65 : Sta Z h0 "java/lang/StringUTF16" "HI_BYTE_SHIFT" "I" (.int (0 : Int32)) := Sta.ext OLD.2 (Amb.a3 A)
  refine own_gS X64 hx hZ hown (host := "") (Or.inl (wd112 hw)) Via.refl e64 f65 41 (hb hby d25_38) rfl fun T66 X66 e66 => ?_
  refine own_ru 43 [(.int ((q >>> ((0 : Int32) &&& 31)).toInt8.toInt32)), (.int (nn <<< ((1 : Int32) &&& 31))), (.ref va)] X66 hx hby e25_41_2 rfl rfl ?_
  obtain ⟨cl67, Ar67, q67, S67, N67z, Hs67, G67⟩ := id P0
  have hin67 : ¬ ((nn <<< ((1 : Int32) &&& 31)) < 0 ∨ cl67.slots.size ≤ ((nn <<< ((1 : Int32) &&& 31))).toNatClampNeg) := inb_of S67 hp0
  obtain ⟨T68, h68, X68, e68, W68, st68⟩ := stB X66 hx hZ e66 Ar67 (j := (nn <<< ((1 : Int32) &&& 31))) hin67 (g := (mkF m 43 #[.val (.ref va), .val (.int ((nn <<< ((1 : Int32) &&& 31)) + (1 : Int32))), .val (.int q)] [(.int ((q >>> ((0 : Int32) &&& 31)).toInt8.toInt32)), (.int (nn <<< ((1 : Int32) &&& 31))), (.ref va)])) rfl rfl (hb hby d25_43)
  have V68 : Arv Z h68 va kk .byte zz (vs.set ((nn <<< ((1 : Int32) &&& 31))).toNatClampNeg (.int (nar .byte ((q >>> ((0 : Int32) &&& 31)).toInt8.toInt32)))) (.int (0 : Int32)) := Arv.set Ar67 q67 S67 N67z Hs67 G67 (fits_nar_byte _) W68 _ rfl hl0
  have z68 := W68.size
  have KK68 : Keep h0 h68 [va] := (Keep.refl h0 [va]).wr W68 (Or.inl (by simp))
  have N68 := Fr.snoc X68 N0 (by omega)
  refine own_sT 44 [] st68 ?_
  refine own_ru 47 [(.int q), (.int ((nn <<< ((1 : Int32) &&& 31)) + (1 : Int32))), (.ref va)] X68 hx hby e25_44_3 rfl rfl ?_
  have f69 := (OLD.wr W68 (by omega))
  have f70 : Sta Z h68 "java/lang/StringUTF16" "LO_BYTE_SHIFT" "I" (.int (8 : Int32)) := Sta.ext f69.2 (Amb.a4 A)
  refine own_gS X68 hx hZ hown (host := "") (Or.inl (wd113 hw)) Via.refl e68 f70 50 (hb hby d25_47) rfl fun T71 X71 e71 => ?_
  refine own_ru 52 [(.int ((q >>> ((8 : Int32) &&& 31)).toInt8.toInt32)), (.int ((nn <<< ((1 : Int32) &&& 31)) + (1 : Int32))), (.ref va)] X71 hx hby e25_50_2 rfl rfl ?_
  obtain ⟨cl72, Ar72, q72, S72, N72z, Hs72, G72⟩ := id V68
  have hin72 : ¬ (((nn <<< ((1 : Int32) &&& 31)) + (1 : Int32)) < 0 ∨ cl72.slots.size ≤ (((nn <<< ((1 : Int32) &&& 31)) + (1 : Int32))).toNatClampNeg) := inb_of S72 hp1
  obtain ⟨T73, h73, X73, e73, W73, st73⟩ := stB X71 hx hZ e71 Ar72 (j := ((nn <<< ((1 : Int32) &&& 31)) + (1 : Int32))) hin72 (g := (mkF m 52 #[.val (.ref va), .val (.int ((nn <<< ((1 : Int32) &&& 31)) + (1 : Int32))), .val (.int q)] [(.int ((q >>> ((8 : Int32) &&& 31)).toInt8.toInt32)), (.int ((nn <<< ((1 : Int32) &&& 31)) + (1 : Int32))), (.ref va)])) rfl rfl (hb hby d25_52)
  have V73 : Arv Z h73 va kk .byte zz ((vs.set ((nn <<< ((1 : Int32) &&& 31))).toNatClampNeg (.int (nar .byte ((q >>> ((0 : Int32) &&& 31)).toInt8.toInt32)))).set (((nn <<< ((1 : Int32) &&& 31)) + (1 : Int32))).toNatClampNeg (.int (nar .byte ((q >>> ((8 : Int32) &&& 31)).toInt8.toInt32)))) (.int (0 : Int32)) := Arv.set Ar72 q72 S72 N72z Hs72 G72 (fits_nar_byte _) W73 _ rfl (by rw [List.length_set]; exact hl1)
  have z73 := W73.size
  have KK73 : Keep h0 h73 [va] := KK68.wr W73 (Or.inl (by simp))
  have N73 := Fr.snoc X73 N68 (by omega)
  refine own_sT 53 [] st73 ?_
  have hq74 : Q25 Z G1 G2 va nn q kk zz vs h0 n0 none h73 _ := ⟨rfl, N73, KK73, V73⟩
  exact own_retV X73 hx hlk hrt (hb hby d25_53) e73 hq74 (by decide) (by decide)
abbrev my24 : MethodName := (⟨"java/lang/StringUTF16", "newBytesLength", "(I)I"⟩ : MethodName)
theorem d24_1 : decode jdk_52_method_3_code 1 = .ok (.ifCond .ge 11, 3) := by decide +kernel
theorem d24_13 : decode jdk_52_method_3_code 13 = .ok (.ldc 20, 2) := by decide +kernel
theorem d24_15 : decode jdk_52_method_3_code 15 = .ok (.if_icmp .lt 40, 3) := by decide +kernel
theorem d24_58 : decode jdk_52_method_3_code 58 = .ok (.ireturn, 1) := by decide +kernel
theorem e24_0_1 : own_dec jdk_52_method_3_code 0 [(.iload_n 0, 1)] = true := by decide +kernel
theorem e24_12_1 : own_dec jdk_52_method_3_code 12 [(.iload_n 0, 1)] = true := by decide +kernel
theorem e24_55_3 : own_dec jdk_52_method_3_code 55 [(.iload_n 0, 1), (.iconst 1, 1), (.ishl, 1)] = true := by decide +kernel
def Q24n1 (Z : State)  (h0 : Heap) (n0 : Nat) (v : Option Value) (h : Heap) (L : List Loc) : Prop := v = some (.int (2 : Int32)) ∧ Fr n0 L ∧ h = h0
set_option maxRecDepth 65536 in
set_option maxHeartbeats 40000000 in
theorem rm24n1 (l : Launch) (Z : State) (a0 : Array Value) (hw : OW a0 Z) (ws : List Jvm.Cond)  (h0 : Heap) (n0 : Nat) (Z0 : n0 ≤ h0.size)  :
    own_Met l my24 jdk_52_method_3_code 1 (some .int) ws (own_rm 0 0 0 0) #[(.int (1 : Int32))] Z h0 (Q24n1 Z  h0 n0) 0 0 := by
  refine own_body (plainFor_of_name pn_3) (fun m => by first | (simp [entryFrame, mkF, argsToLocals, Value.category]; done) | rfl) (Ls := #[.val (.int (1 : Int32))]) fun p e s m below meth c s₁ X0 hx hby hml hZ e0 hown hnm hlk hrt => ?_
  have N0 := Fr.nil n0
  refine own_ru 1 [(.int (1 : Int32))] X0 hx hby e24_0_1 rfl rfl ?_
  refine own_iY 12 X0 hx (hb hby d24_1) rfl ((if0 _ _).trans (flt (by decide : ¬ ((1 : Int32) < (0 : Int32)))).2.1) (by decide) (by decide) ?_
  refine own_ru 13 [(.int (1 : Int32))] X0 hx hby e24_12_1 rfl rfl ?_
  refine own_st 15 [(.int (1073741823 : Int32)), (.int (1 : Int32))] (X0.ldcInt hx hown (mvT hZ (wd107 hw)) (g := (mkF m 13 #[.val (.int (1 : Int32))] [(.int (1 : Int32))])) rfl (hb hby d24_13)) ?_
  refine own_kY 55 X0 hx (hb hby d24_15) rfl (tlt (by decide : ((1 : Int32) < (1073741823 : Int32)))).1 (by decide) (by decide) ?_
  refine own_ru 58 [(.int (2 : Int32))] X0 hx hby e24_55_3 rfl rfl ?_
  have hq75 : Q24n1 Z  h0 n0 (some (.int (2 : Int32))) h0 _ := ⟨rfl, N0, rfl⟩
  exact own_retI X0 hx hlk hrt (hb hby d24_58) e0 hq75 (by decide) (by decide)
abbrev my23 : MethodName := (⟨"java/lang/StringUTF16", "newBytesFor", "(I)[B"⟩ : MethodName)
theorem d23_1 : decode jdk_52_method_2_code 1 = .ok (.invokestatic 11, 3) := by decide +kernel
theorem d23_4 : decode jdk_52_method_2_code 4 = .ok (.newarray .byte, 2) := by decide +kernel
theorem d23_6 : decode jdk_52_method_2_code 6 = .ok (.areturn, 1) := by decide +kernel
theorem e23_0_1 : own_dec jdk_52_method_2_code 0 [(.iload_n 0, 1)] = true := by decide +kernel
theorem pd_7 : parseMethodDescriptor "(I)I" = some ⟨[.int], some .int⟩ := by decide +kernel
def Q23n1 (Z : State)  (h0 : Heap) (n0 : Nat) (v : Option Value) (h : Heap) (L : List Loc) : Prop := ∃ ob : Addr, ∃ kk : ClassId, v = some (.ref ob) ∧ Fr n0 L ∧ Keep h0 h [] ∧ Arv Z h ob kk .byte (2 : Int32) [(.int (0 : Int32)), (.int (0 : Int32))] (.int (0 : Int32)) ∧ (h0.size ≤ ob)
set_option maxRecDepth 65536 in
set_option maxHeartbeats 40000000 in
theorem rm23n1 (l : Launch) (Z : State) (a0 : Array Value) (hw : OW a0 Z) (ws : List Jvm.Cond)  (h0 : Heap) (n0 : Nat) (Z0 : n0 ≤ h0.size)  :
    own_Met l my23 jdk_52_method_2_code 1 (some (.array .byte)) ws (own_rm 1 1 2 12) #[(.int (1 : Int32))] Z h0 (Q23n1 Z  h0 n0) 1 2 := by
  refine own_body (plainFor_of_name pn_3) (fun m => by first | (simp [entryFrame, mkF, argsToLocals, Value.category]; done) | rfl) (Ls := #[.val (.int (1 : Int32))]) fun p e s m below meth c s₁ X0 hx hby hml hZ e0 hown hnm hlk hrt => ?_
  have N0 := Fr.nil n0
  refine own_ru 1 [(.int (1 : Int32))] X0 hx hby e23_0_1 rfl rfl ?_
  refine own_cS X0 hx hZ hown (wd104 hw) (wd105 hw) (by decide) (wd106 hw) (wd45 hw) (rm24n1 l Z a0 hw []  h0 n0 (by omega) ) e0  [(.int (1 : Int32))] [] 4 0 (hb hby d23_1) rfl (by rw [hml]; rfl) rfl rfl (lenOf pd_7 rfl) rfl (by decide) fun v76 T76 Lc76 X76 hQ76 => ?_
  obtain ⟨rfl, N76q, e76⟩ := hQ76
  have N76 := Fr.app N0 N76q
  refine own_nP (aty := .byte) X76 hx hZ (wd20 hw) e76 6 (hb hby d23_4) rfl rfl (by decide) (cap := 2) (by decide) (by decide) (by decide) (by decide) (ad := "[B") rfl fun T77 h77 k77 b77 g77 X77 e77 E77 A77 B77 => ?_
  have ll77 : @LT.lt Nat _ b77 (Array.size h77) := A77.lt
  have KK77 : Keep h0 h77 [] := (Keep.refl h0 []).ext E77
  have z77 := E77.1
  have V77 : Arv Z h77 b77 k77 .byte (2 : Int32) [(.int (0 : Int32)), (.int (0 : Int32))] (.int (0 : Int32)) := (Arv.new A77 (by decide)).pad (pad_rep [] (.int (0 : Int32)) 2)
  have hq78 : Q23n1 Z  h0 n0 (some (.ref b77)) h77 _ := ⟨b77, k77, rfl, N76, KK77, V77, (by first | omega | assumption)⟩
  exact own_retR X77 hx hlk (w := (.ref b77)) rfl hrt rfl (hb hby d23_6) e77 hq78 (by decide) (by decide)
abbrev my22 : MethodName := (⟨"java/lang/StringUTF16", "toBytes", "([CII)[B"⟩ : MethodName)
theorem d22_1 : decode jdk_52_method_14_code 1 = .ok (.invokestatic 107, 3) := by decide +kernel
theorem d22_11 : decode jdk_52_method_14_code 11 = .ok (.if_icmp .ge 21, 3) := by decide +kernel
theorem d22_19 : decode jdk_52_method_14_code 19 = .ok (.caload, 1) := by decide +kernel
theorem d22_20 : decode jdk_52_method_14_code 20 = .ok (.invokestatic 111, 3) := by decide +kernel
theorem d22_29 : decode jdk_52_method_14_code 29 = .ok (.goto (-21), 3) := by decide +kernel
theorem d22_33 : decode jdk_52_method_14_code 33 = .ok (.areturn, 1) := by decide +kernel
theorem e22_0_1 : own_dec jdk_52_method_14_code 0 [(.iload_n 2, 1)] = true := by decide +kernel
theorem e22_4_5 : own_dec jdk_52_method_14_code 4 [(.astore_n 3, 1), (.iconst 0, 1), (.istore 4, 2), (.iload 4, 2), (.iload_n 2, 1)] = true := by decide +kernel
theorem e22_14_4 : own_dec jdk_52_method_14_code 14 [(.aload_n 3, 1), (.iload 4, 2), (.aload_n 0, 1), (.iload_n 1, 1)] = true := by decide +kernel
theorem e22_23_2 : own_dec jdk_52_method_14_code 23 [(.iinc 1 1, 3), (.iinc 4 1, 3)] = true := by decide +kernel
theorem e22_8_2 : own_dec jdk_52_method_14_code 8 [(.iload 4, 2), (.iload_n 2, 1)] = true := by decide +kernel
theorem e22_32_1 : own_dec jdk_52_method_14_code 32 [(.aload_n 3, 1)] = true := by decide +kernel
theorem pd_8 : parseMethodDescriptor "(I)[B" = some ⟨[.int], some (.array .byte)⟩ := by decide +kernel
theorem pd_9 : parseMethodDescriptor "([BII)V" = some ⟨[(.array .byte), .int, .int], none⟩ := by decide +kernel
def Q22n1 (Z : State) (G1 : Int32) (G2 : Value) (ca : Addr) (kc : ClassId) (x0 : Int32) (h0 : Heap) (n0 : Nat) (v : Option Value) (h : Heap) (L : List Loc) : Prop := ∃ ob : Addr, ∃ kk : ClassId, v = some (.ref ob) ∧ Fr n0 L ∧ Keep h0 h [] ∧ Arv Z h ob kk .byte (2 : Int32) [(.int (own_e0 x0)), (.int (own_e1 x0))] (.int (0 : Int32)) ∧ (h0.size ≤ ob)
set_option maxRecDepth 65536 in
set_option maxHeartbeats 40000000 in
theorem rm22n1 (l : Launch) (Z : State) (a0 : Array Value) (hw : OW a0 Z) (ws : List Jvm.Cond) (G1 : Int32) (G2 : Value) (ca : Addr) (kc : ClassId) (x0 : Int32) (h0 : Heap) (n0 : Nat) (Z0 : n0 ≤ h0.size) (OLD : Old Z n0 h0) (A : Amb Z G1 G2) (P0 : Arv Z h0 ca kc .char (1 : Int32) [(.int x0)] (.int (0 : Int32))) :
    own_Met l my22 jdk_52_method_14_code 5 (some (.array .byte)) ws (own_rm 2 1 2 24) #[(.ref ca), (.int (0 : Int32)), (.int (1 : Int32))] Z h0 (Q22n1 Z G1 G2 ca kc x0 h0 n0) 1 2 := by
  refine own_body (plainFor_of_name pn_3) (fun m => by first | (simp [entryFrame, mkF, argsToLocals, Value.category]; done) | rfl) (Ls := #[.val (.ref ca), .val (.int (0 : Int32)), .val (.int (1 : Int32)), .unset, .unset]) fun p e s m below meth c s₁ X0 hx hby hml hZ e0 hown hnm hlk hrt => ?_
  have N0 := Fr.nil n0
  have lt_P0 : @LT.lt Nat _ ca (Array.size h0) := P0.lt
  refine own_ru 1 [(.int (1 : Int32))] X0 hx hby e22_0_1 rfl rfl ?_
  refine own_cS X0 hx hZ hown (wd101 hw) (wd102 hw) (by decide) (wd103 hw) (wd45 hw) (rm23n1 l Z a0 hw []  h0 n0 (by omega) ) e0  [(.int (1 : Int32))] [] 4 0 (hb hby d22_1) rfl (by rw [hml]; rfl) rfl rfl (lenOf pd_8 rfl) rfl (by decide) fun v79 T79 Lc79 X79 hQ79 => ?_
  obtain ⟨ob_79, kk_79, rfl, N79q, K79, G79_0, U79_0⟩ := hQ79
  have N79 := Fr.app N0 N79q
  have z79 := K79.1
  have KK79 : Keep h0 T79.heap [] := (Keep.refl h0 []).trans K79 all0
  have lt79_0 : @LT.lt Nat _ ob_79 (Array.size T79.heap) := G79_0.lt
  refine own_rl 11 #[.val (.ref ca), .val (.int (0 : Int32)), .val (.int (1 : Int32)), .val (.ref ob_79), .val (.int (0 : Int32))] [(.int (1 : Int32)), (.int (0 : Int32))] X79 hx hby e22_4_5 rfl rfl ?_
  refine own_kN 14 X79 hx (hb hby d22_11) rfl (tlt (by decide : ((0 : Int32) < (1 : Int32)))).2.1 rfl ?_
  refine own_ru 19 [(.int (0 : Int32)), (.ref ca), (.int (0 : Int32)), (.ref ob_79)] X79 hx hby e22_14_4 rfl rfl ?_
  have f80 := (P0.keep K79 nin0)
  obtain ⟨cl81, Ar81, q81, S81, N81z, Hs81, G81⟩ := id f80
  have hin81 : ¬ ((0 : Int32) < 0 ∨ cl81.slots.size ≤ ((0 : Int32)).toNatClampNeg) := inb_of S81 ⟨by decide, by decide⟩
  have hat81 : cl81.slots[((0 : Int32)).toNatClampNeg]? = some (.int x0) := Hs81.at hin81 rfl
  refine own_st 20 [(.int x0), (.int (0 : Int32)), (.ref ob_79)] (X79.caload hx (j := (0 : Int32)) (v := (.int x0)) Ar81.1 (State.isArrayOf_alike hZ.alike Ar81.2.1) Ar81.2.2 hin81 hat81 (g := (mkF m 19 #[.val (.ref ca), .val (.int (0 : Int32)), .val (.int (1 : Int32)), .val (.ref ob_79), .val (.int (0 : Int32))] [(.int (0 : Int32)), (.ref ca), (.int (0 : Int32)), (.ref ob_79)])) rfl rfl (hb hby d22_19)) ?_
  have f82 := (OLD.keep K79 all0)
  refine own_cS X79 hx hZ hown (wd108 hw) (wd109 hw) (by decide) (wd110 hw) (wd45 hw) (rm25 l Z a0 hw [] G1 G2 ob_79 (0 : Int32) x0 kk_79 (2 : Int32) [(.int (0 : Int32)), (.int (0 : Int32))] T79.heap n0 (by omega) f82 A G79_0 (by omega) ⟨by decide, by decide⟩ ⟨by decide, by decide⟩ (Nat.le_of_ble_eq_true rfl) (Nat.le_of_ble_eq_true rfl)) rfl  [(.ref ob_79), (.int (0 : Int32)), (.int x0)] [] 23 0 (hb hby d22_20) rfl (by rw [hml]; rfl) rfl rfl (lenOf pd_9 rfl) rfl (by decide) fun v83 T83 Lc83 X83 hQ83 => ?_
  obtain ⟨rfl, N83q, K83, G83_0⟩ := hQ83
  have N83 := Fr.app N79 N83q
  have z83 := K83.1
  have KK83 : Keep h0 T83.heap [] := KK79.trans K83 (allS (Or.inr (by omega)) all0)
  have G83_0' : Arv Z T83.heap ob_79 kk_79 .byte (2 : Int32) [(.int (own_e0 x0)), (.int (own_e1 x0))] (.int (0 : Int32)) := G83_0
  have lt83_0 : @LT.lt Nat _ ob_79 (Array.size T83.heap) := G83_0.lt
  refine own_rl 29 #[.val (.ref ca), .val (.int (1 : Int32)), .val (.int (1 : Int32)), .val (.ref ob_79), .val (.int (1 : Int32))] [] X83 hx hby e22_23_2 rfl rfl ?_
  refine own_go 8 X83 hx (hb hby d22_29) (by decide) (by decide) ?_
  refine own_ru 11 [(.int (1 : Int32)), (.int (1 : Int32))] X83 hx hby e22_8_2 rfl rfl ?_
  refine own_kY 32 X83 hx (hb hby d22_11) rfl (flt (by decide : ¬ ((1 : Int32) < (1 : Int32)))).2.1 (by decide) (by decide) ?_
  refine own_ru 33 [(.ref ob_79)] X83 hx hby e22_32_1 rfl rfl ?_
  have hq84 : Q22n1 Z G1 G2 ca kc x0 h0 n0 (some (.ref ob_79)) T83.heap _ := ⟨ob_79, kk_79, rfl, N83, KK83, G83_0', (by first | omega | assumption)⟩
  exact own_retR X83 hx hlk (w := (.ref ob_79)) rfl hrt rfl (hb hby d22_33) rfl hq84 (by decide) (by decide)
abbrev my9 : MethodName := (⟨"java/lang/StringUTF16", "compress", "([CI[BII)I"⟩ : MethodName)
theorem d9_7 : decode jdk_52_method_21_code 7 = .ok (.if_icmp .ge 37, 3) := by decide +kernel
theorem d9_12 : decode jdk_52_method_21_code 12 = .ok (.caload, 1) := by decide +kernel
theorem d9_20 : decode jdk_52_method_21_code 20 = .ok (.if_icmp .le 6, 3) := by decide +kernel
theorem d9_25 : decode jdk_52_method_21_code 25 = .ok (.ireturn, 1) := by decide +kernel
theorem d9_31 : decode jdk_52_method_21_code 31 = .ok (.bastore, 1) := by decide +kernel
theorem d9_41 : decode jdk_52_method_21_code 41 = .ok (.goto (-38), 3) := by decide +kernel
theorem d9_46 : decode jdk_52_method_21_code 46 = .ok (.ireturn, 1) := by decide +kernel
theorem e9_0_4 : own_dec jdk_52_method_21_code 0 [(.iconst 0, 1), (.istore 5, 2), (.iload 5, 2), (.iload 4, 2)] = true := by decide +kernel
theorem e9_10_2 : own_dec jdk_52_method_21_code 10 [(.aload_n 0, 1), (.iload_n 1, 1)] = true := by decide +kernel
theorem e9_13_3 : own_dec jdk_52_method_21_code 13 [(.istore 6, 2), (.iload 6, 2), (.sipush 255, 3)] = true := by decide +kernel
theorem e9_23_1 : own_dec jdk_52_method_21_code 23 [(.iload 5, 2)] = true := by decide +kernel
theorem e9_26_4 : own_dec jdk_52_method_21_code 26 [(.aload_n 2, 1), (.iload_n 3, 1), (.iload 6, 2), (.i2b, 1)] = true := by decide +kernel
theorem e9_32_3 : own_dec jdk_52_method_21_code 32 [(.iinc 1 1, 3), (.iinc 3 1, 3), (.iinc 5 1, 3)] = true := by decide +kernel
theorem e9_3_2 : own_dec jdk_52_method_21_code 3 [(.iload 5, 2), (.iload 4, 2)] = true := by decide +kernel
theorem e9_44_1 : own_dec jdk_52_method_21_code 44 [(.iload 4, 2)] = true := by decide +kernel
def Q9n1 (Z : State) (ca : Addr) (bb : Addr) (kc : ClassId) (kb : ClassId) (x0 : Int32) (h0 : Heap) (n0 : Nat) (v : Option Value) (h : Heap) (L : List Loc) : Prop := ∃ r : Int32, ∃ vz : List Value, v = some (.int r) ∧ Fr n0 L ∧ Keep h0 h [bb] ∧ Arv Z h bb kb .byte (1 : Int32) vz (.int (0 : Int32)) ∧ ((r = (1 : Int32) ∧ vz = [(.int (own_b8 x0))] ∧ ¬ (255 : Int32) < x0) ∨ (r = (0 : Int32) ∧ (255 : Int32) < x0))
set_option maxRecDepth 65536 in
set_option maxHeartbeats 40000000 in
theorem rm9n1 (l : Launch) (Z : State) (a0 : Array Value) (hw : OW a0 Z) (ws : List Jvm.Cond) (ca : Addr) (bb : Addr) (kc : ClassId) (kb : ClassId) (x0 : Int32) (h0 : Heap) (n0 : Nat) (Z0 : n0 ≤ h0.size) (P0 : Arv Z h0 ca kc .char (1 : Int32) [(.int x0)] (.int (0 : Int32))) (P1 : Arv Z h0 bb kb .byte (1 : Int32) [(.int (0 : Int32))] (.int (0 : Int32))) (g_bb : n0 ≤ bb) (hne : @Ne Nat ca bb) :
    own_Met l my9 jdk_52_method_21_code 7 (some .int) ws (own_rm 0 0 0 0) #[(.ref ca), (.int (0 : Int32)), (.ref bb), (.int (0 : Int32)), (.int (1 : Int32))] Z h0 (Q9n1 Z ca bb kc kb x0 h0 n0) 0 0 := by
  refine own_body (plainFor_of_name pn_3) (fun m => by first | (simp [entryFrame, mkF, argsToLocals, Value.category]; done) | rfl) (Ls := #[.val (.ref ca), .val (.int (0 : Int32)), .val (.ref bb), .val (.int (0 : Int32)), .val (.int (1 : Int32)), .unset, .unset]) fun p e s m below meth c s₁ X0 hx hby hml hZ e0 hown hnm hlk hrt => ?_
  have N0 := Fr.nil n0
  have lt_P0 : @LT.lt Nat _ ca (Array.size h0) := P0.lt
  have lt_P1 : @LT.lt Nat _ bb (Array.size h0) := P1.lt
  refine own_rl 7 #[.val (.ref ca), .val (.int (0 : Int32)), .val (.ref bb), .val (.int (0 : Int32)), .val (.int (1 : Int32)), .val (.int (0 : Int32)), .unset] [(.int (1 : Int32)), (.int (0 : Int32))] X0 hx hby e9_0_4 rfl rfl ?_
  refine own_kN 10 X0 hx (hb hby d9_7) rfl (tlt (by decide : ((0 : Int32) < (1 : Int32)))).2.1 rfl ?_
  refine own_ru 12 [(.int (0 : Int32)), (.ref ca)] X0 hx hby e9_10_2 rfl rfl ?_
  obtain ⟨cl85, Ar85, q85, S85, N85z, Hs85, G85⟩ := id P0
  have hin85 : ¬ ((0 : Int32) < 0 ∨ cl85.slots.size ≤ ((0 : Int32)).toNatClampNeg) := inb_of S85 ⟨by decide, by decide⟩
  have hat85 : cl85.slots[((0 : Int32)).toNatClampNeg]? = some (.int x0) := Hs85.at hin85 rfl
  refine own_st 13 [(.int x0)] (X0.caload hx (j := (0 : Int32)) (v := (.int x0)) (by rw [e0]; exact Ar85.1) (State.isArrayOf_alike hZ.alike Ar85.2.1) Ar85.2.2 hin85 hat85 (g := (mkF m 12 #[.val (.ref ca), .val (.int (0 : Int32)), .val (.ref bb), .val (.int (0 : Int32)), .val (.int (1 : Int32)), .val (.int (0 : Int32)), .unset] [(.int (0 : Int32)), (.ref ca)])) rfl rfl (hb hby d9_12)) ?_
  refine own_rl 20 #[.val (.ref ca), .val (.int (0 : Int32)), .val (.ref bb), .val (.int (0 : Int32)), .val (.int (1 : Int32)), .val (.int (0 : Int32)), .val (.int x0)] [(.int (255 : Int32)), (.int x0)] X0 hx hby e9_13_3 rfl rfl ?_
  by_cases hc20 : (255 : Int32) < x0
  · refine own_kN 23 X0 hx (hb hby d9_20) rfl (tlt hc20).2.2.2 rfl ?_
    refine own_ru 25 [(.int (0 : Int32))] X0 hx hby e9_23_1 rfl rfl ?_
    have hq86 : Q9n1 Z ca bb kc kb x0 h0 n0 (some (.int (0 : Int32))) h0 _ := ⟨(0 : Int32), [(.int (0 : Int32))], rfl, N0, (Keep.refl h0 [bb]), P1, (Or.inr (⟨rfl, hc20⟩))⟩
    exact own_retI X0 hx hlk hrt (hb hby d9_25) e0 hq86 (by decide) (by decide)
  · refine own_kY 26 X0 hx (hb hby d9_20) rfl (flt hc20).2.2.2 (by decide) (by decide) ?_
    refine own_ru 31 [(.int (x0.toInt8.toInt32)), (.int (0 : Int32)), (.ref bb)] X0 hx hby e9_26_4 rfl rfl ?_
    obtain ⟨cl87, Ar87, q87, S87, N87z, Hs87, G87⟩ := id P1
    have hin87 : ¬ ((0 : Int32) < 0 ∨ cl87.slots.size ≤ ((0 : Int32)).toNatClampNeg) := inb_of S87 ⟨by decide, by decide⟩
    obtain ⟨T88, h88, X88, e88, W88, st88⟩ := stB X0 hx hZ e0 Ar87 (j := (0 : Int32)) hin87 (g := (mkF m 31 #[.val (.ref ca), .val (.int (0 : Int32)), .val (.ref bb), .val (.int (0 : Int32)), .val (.int (1 : Int32)), .val (.int (0 : Int32)), .val (.int x0)] [(.int (x0.toInt8.toInt32)), (.int (0 : Int32)), (.ref bb)])) rfl rfl (hb hby d9_31)
    have V88 : Arv Z h88 bb kb .byte (1 : Int32) [(.int (nar .byte (x0.toInt8.toInt32)))] (.int (0 : Int32)) := Arv.set Ar87 q87 S87 N87z Hs87 G87 (fits_nar_byte _) W88 0 rfl (Nat.le_of_ble_eq_true rfl)
    have z88 := W88.size
    have KK88 : Keep h0 h88 [bb] := (Keep.refl h0 [bb]).wr W88 (Or.inl (by simp))
    have N88 := Fr.snoc X88 N0 (by omega)
    refine own_sT 32 [] st88 ?_
    refine own_rl 41 #[.val (.ref ca), .val (.int (1 : Int32)), .val (.ref bb), .val (.int (1 : Int32)), .val (.int (1 : Int32)), .val (.int (1 : Int32)), .val (.int x0)] [] X88 hx hby e9_32_3 rfl rfl ?_
    refine own_go 3 X88 hx (hb hby d9_41) (by decide) (by decide) ?_
    refine own_ru 7 [(.int (1 : Int32)), (.int (1 : Int32))] X88 hx hby e9_3_2 rfl rfl ?_
    refine own_kY 44 X88 hx (hb hby d9_7) rfl (flt (by decide : ¬ ((1 : Int32) < (1 : Int32)))).2.1 (by decide) (by decide) ?_
    refine own_ru 46 [(.int (1 : Int32))] X88 hx hby e9_44_1 rfl rfl ?_
    have hq89 : Q9n1 Z ca bb kc kb x0 h0 n0 (some (.int (1 : Int32))) h88 _ := ⟨(1 : Int32), [(.int (nar .byte (x0.toInt8.toInt32)))], rfl, N88, KK88, V88, (Or.inl ⟨rfl, rfl, hc20⟩)⟩
    exact own_retI X88 hx hlk hrt (hb hby d9_46) e88 hq89 (by decide) (by decide)
def own_By1 (Z : State) (h : Heap) (ob : Addr) (x0 : Int32) : Prop := (∃ kk : ClassId, Arv Z h ob kk .byte (1 : Int32) [(.int (own_b8 x0))] (.int (0 : Int32)) ∧ ¬ (255 : Int32) < x0) ∨ (∃ kk : ClassId, Arv Z h ob kk .byte (2 : Int32) [(.int (own_e0 x0)), (.int (own_e1 x0))] (.int (0 : Int32)))
abbrev my8 : MethodName := (⟨"java/lang/StringUTF16", "compress", "([CII)[B"⟩ : MethodName)
theorem d8_1 : decode jdk_52_method_16_code 1 = .ok (.newarray .byte, 2) := by decide +kernel
theorem d8_9 : decode jdk_52_method_16_code 9 = .ok (.invokestatic 115, 3) := by decide +kernel
theorem d8_17 : decode jdk_52_method_16_code 17 = .ok (.if_icmp .eq 40, 3) := by decide +kernel
theorem d8_23 : decode jdk_52_method_16_code 23 = .ok (.invokestatic 119, 3) := by decide +kernel
theorem d8_32 : decode jdk_52_method_16_code 32 = .ok (.invokestatic 71, 3) := by decide +kernel
theorem d8_38 : decode jdk_52_method_16_code 38 = .ok (.if_icmp .gt 16, 3) := by decide +kernel
theorem d8_56 : decode jdk_52_method_16_code 56 = .ok (.areturn, 1) := by decide +kernel
theorem d8_58 : decode jdk_52_method_16_code 58 = .ok (.areturn, 1) := by decide +kernel
theorem e8_0_1 : own_dec jdk_52_method_16_code 0 [(.iload_n 2, 1)] = true := by decide +kernel
theorem e8_3_6 : own_dec jdk_52_method_16_code 3 [(.astore_n 3, 1), (.aload_n 0, 1), (.iload_n 1, 1), (.aload_n 3, 1), (.iconst 0, 1), (.iload_n 2, 1)] = true := by decide +kernel
theorem e8_12_3 : own_dec jdk_52_method_16_code 12 [(.istore 4, 2), (.iload 4, 2), (.iload_n 2, 1)] = true := by decide +kernel
theorem e8_57_1 : own_dec jdk_52_method_16_code 57 [(.aload_n 3, 1)] = true := by decide +kernel
theorem e8_20_3 : own_dec jdk_52_method_16_code 20 [(.aload_n 0, 1), (.iload_n 1, 1), (.iload_n 2, 1)] = true := by decide +kernel
theorem e8_26_3 : own_dec jdk_52_method_16_code 26 [(.astore 5, 2), (.aload 5, 2), (.iload 4, 2)] = true := by decide +kernel
theorem e8_35_1 : own_dec jdk_52_method_16_code 35 [(.sipush 255, 3)] = true := by decide +kernel
theorem e8_54_1 : own_dec jdk_52_method_16_code 54 [(.aload 5, 2)] = true := by decide +kernel
theorem pd_10 : parseMethodDescriptor "([CI[BII)I" = some ⟨[(.array .char), .int, (.array .byte), .int, .int], some .int⟩ := by decide +kernel
theorem pd_11 : parseMethodDescriptor "([CII)[B" = some ⟨[(.array .char), .int, .int], some (.array .byte)⟩ := by decide +kernel
def Q8n1 (Z : State) (G1 : Int32) (G2 : Value) (ca : Addr) (kc : ClassId) (x0 : Int32) (h0 : Heap) (n0 : Nat) (v : Option Value) (h : Heap) (L : List Loc) : Prop := ∃ ob : Addr, v = some (.ref ob) ∧ Fr n0 L ∧ Keep h0 h [] ∧ own_By1 Z h ob x0 ∧ (h0.size ≤ ob)
set_option maxRecDepth 65536 in
set_option maxHeartbeats 40000000 in
theorem rm8n1 (l : Launch) (Z : State) (a0 : Array Value) (hw : OW a0 Z) (ws : List Jvm.Cond) (G1 : Int32) (G2 : Value) (ca : Addr) (kc : ClassId) (x0 : Int32) (h0 : Heap) (n0 : Nat) (Z0 : n0 ≤ h0.size) (OLD : Old Z n0 h0) (A : Amb Z G1 G2) (P0 : Arv Z h0 ca kc .char (1 : Int32) [(.int x0)] (.int (0 : Int32))) (hx0 : own_ch x0) :
    own_Met l my8 jdk_52_method_16_code 6 (some (.array .byte)) ws (own_rm 3 2 3 40) #[(.ref ca), (.int (0 : Int32)), (.int (1 : Int32))] Z h0 (Q8n1 Z G1 G2 ca kc x0 h0 n0) 2 3 := by
  refine own_body (plainFor_of_name pn_3) (fun m => by first | (simp [entryFrame, mkF, argsToLocals, Value.category]; done) | rfl) (Ls := #[.val (.ref ca), .val (.int (0 : Int32)), .val (.int (1 : Int32)), .unset, .unset, .unset]) fun p e s m below meth c s₁ X0 hx hby hml hZ e0 hown hnm hlk hrt => ?_
  have N0 := Fr.nil n0
  have lt_P0 : @LT.lt Nat _ ca (Array.size h0) := P0.lt
  refine own_ru 1 [(.int (1 : Int32))] X0 hx hby e8_0_1 rfl rfl ?_
  refine own_nP (aty := .byte) X0 hx hZ (wd20 hw) e0 3 (hb hby d8_1) rfl rfl (by decide) (cap := 1) (by decide) (by decide) (by decide) (by decide) (ad := "[B") rfl fun T90 h90 k90 b90 g90 X90 e90 E90 A90 B90 => ?_
  have ll90 : @LT.lt Nat _ b90 (Array.size h90) := A90.lt
  have KK90 : Keep h0 h90 [] := (Keep.refl h0 []).ext E90
  have z90 := E90.1
  have V90 : Arv Z h90 b90 k90 .byte (1 : Int32) [(.int (0 : Int32))] (.int (0 : Int32)) := (Arv.new A90 (by decide)).pad (pad_rep [] (.int (0 : Int32)) 1)
  refine own_rl 9 #[.val (.ref ca), .val (.int (0 : Int32)), .val (.int (1 : Int32)), .val (.ref b90), .unset, .unset] [(.int (1 : Int32)), (.int (0 : Int32)), (.ref b90), (.int (0 : Int32)), (.ref ca)] X90 hx hby e8_3_6 rfl rfl ?_
  have f91 := (P0.ext E90)
  refine own_cS X90 hx hZ hown (wd47 hw) (wd48 hw) (by decide) (wd49 hw) (wd45 hw) (rm9n1 l Z a0 hw [] ca b90 kc k90 x0 h90 n0 (by omega) f91 V90 (by omega) (by first | assumption | decide | omega)) e90  [(.ref ca), (.int (0 : Int32)), (.ref b90), (.int (0 : Int32)), (.int (1 : Int32))] [] 12 0 (hb hby d8_9) rfl (by rw [hml]; rfl) rfl rfl (lenOf pd_10 rfl) rfl (by decide) fun v92 T92 Lc92 X92 hQ92 => ?_
  obtain ⟨r_92, vz_92, rfl, N92q, K92, G92_0, U92_0⟩ := hQ92
  have N92 := Fr.app N0 N92q
  have z92 := K92.1
  have KK92 : Keep h0 T92.heap [] := KK90.trans K92 (allS (Or.inr (by omega)) all0)
  have lt92_0 : @LT.lt Nat _ b90 (Array.size T92.heap) := G92_0.lt
  rcases U92_0 with ⟨hr, hvz, hb0⟩ | ⟨hr, hgt⟩
  · subst hr hvz
    refine own_rl 17 #[.val (.ref ca), .val (.int (0 : Int32)), .val (.int (1 : Int32)), .val (.ref b90), .val (.int (1 : Int32)), .unset] [(.int (1 : Int32)), (.int (1 : Int32))] X92 hx hby e8_12_3 rfl rfl ?_
    refine own_kY 57 X92 hx (hb hby d8_17) rfl (teq (by decide : ((1 : Int32) = (1 : Int32)))).1 (by decide) (by decide) ?_
    refine own_ru 58 [(.ref b90)] X92 hx hby e8_57_1 rfl rfl ?_
    have hq93 : Q8n1 Z G1 G2 ca kc x0 h0 n0 (some (.ref b90)) T92.heap _ := ⟨b90, rfl, N92, KK92, Or.inl ⟨k90, G92_0, hb0⟩, (by first | omega | assumption)⟩
    exact own_retR X92 hx hlk (w := (.ref b90)) rfl hrt rfl (hb hby d8_58) rfl hq93 (by decide) (by decide)
  · subst hr
    refine own_rl 17 #[.val (.ref ca), .val (.int (0 : Int32)), .val (.int (1 : Int32)), .val (.ref b90), .val (.int (0 : Int32)), .unset] [(.int (1 : Int32)), (.int (0 : Int32))] X92 hx hby e8_12_3 rfl rfl ?_
    refine own_kN 20 X92 hx (hb hby d8_17) rfl (feq (by decide : ¬ ((0 : Int32) = (1 : Int32)))).1 rfl ?_
    refine own_ru 23 [(.int (1 : Int32)), (.int (0 : Int32)), (.ref ca)] X92 hx hby e8_20_3 rfl rfl ?_
    have f94 := ((OLD.ext E90).keep K92 (allS (by omega) all0))
    have f95 := (f91.keep K92 (own_nS (by omega) nin0))
    refine own_cS X92 hx hZ hown (wd98 hw) (wd99 hw) (by decide) (wd100 hw) (wd45 hw) (rm22n1 l Z a0 hw [] G1 G2 ca kc x0 T92.heap n0 (by omega) f94 A f95) rfl  [(.ref ca), (.int (0 : Int32)), (.int (1 : Int32))] [] 26 0 (hb hby d8_23) rfl (by rw [hml]; rfl) rfl rfl (lenOf pd_11 rfl) rfl (by decide) fun v96 T96 Lc96 X96 hQ96 => ?_
    obtain ⟨ob_96, kk_96, rfl, N96q, K96, G96_0, U96_0⟩ := hQ96
    have N96 := Fr.app N92 N96q
    have z96 := K96.1
    have KK96 : Keep h0 T96.heap [] := KK92.trans K96 all0
    have lt96_0 : @LT.lt Nat _ ob_96 (Array.size T96.heap) := G96_0.lt
    refine own_rl 32 #[.val (.ref ca), .val (.int (0 : Int32)), .val (.int (1 : Int32)), .val (.ref b90), .val (.int (0 : Int32)), .val (.ref ob_96)] [(.int (0 : Int32)), (.ref ob_96)] X96 hx hby e8_26_3 rfl rfl ?_
    have f97 := (f94.keep K96 all0)
    refine own_cS X96 hx hZ hown (wd114 hw) (wd115 hw) (by decide) (wd116 hw) (wd45 hw) (rm26 l Z a0 hw [] G1 G2 ob_96 (0 : Int32) kk_96 (2 : Int32) [(.int (own_e0 x0)), (.int (own_e1 x0))] (own_e0 x0) (own_e1 x0) T96.heap n0 (by omega) f97 A G96_0 ⟨by decide, by decide⟩ ⟨by decide, by decide⟩ rfl rfl) rfl  [(.ref ob_96), (.int (0 : Int32))] [] 35 0 (hb hby d8_32) rfl (by rw [hml]; rfl) rfl rfl (lenOf pd_5 rfl) rfl (by decide) fun v98 T98 Lc98 X98 hQ98 => ?_
    obtain ⟨rfl, N98q, e98⟩ := hQ98
    have N98 := Fr.app N96 N98q
    refine own_ru 38 [(.int (255 : Int32)), (.int (own_u (own_e0 x0) (own_e1 x0)))] X98 hx hby e8_35_1 rfl rfl ?_
    refine own_kY 54 X98 hx (hb hby d8_38) rfl (tlt (by rw [own_uOk hx0]; exact hgt)).2.2.1 (by decide) (by decide) ?_
    refine own_ru 56 [(.ref ob_96)] X98 hx hby e8_54_1 rfl rfl ?_
    have hq99 : Q8n1 Z G1 G2 ca kc x0 h0 n0 (some (.ref ob_96)) T96.heap _ := ⟨ob_96, rfl, N98, KK96, Or.inr ⟨kk_96, G96_0⟩, (by first | omega | assumption)⟩
    exact own_retR X98 hx hlk (w := (.ref ob_96)) rfl hrt rfl (hb hby d8_56) e98 hq99 (by decide) (by decide)
def Q24n2 (Z : State)  (h0 : Heap) (n0 : Nat) (v : Option Value) (h : Heap) (L : List Loc) : Prop := v = some (.int (4 : Int32)) ∧ Fr n0 L ∧ h = h0
set_option maxRecDepth 65536 in
set_option maxHeartbeats 40000000 in
theorem rm24n2 (l : Launch) (Z : State) (a0 : Array Value) (hw : OW a0 Z) (ws : List Jvm.Cond)  (h0 : Heap) (n0 : Nat) (Z0 : n0 ≤ h0.size)  :
    own_Met l my24 jdk_52_method_3_code 1 (some .int) ws (own_rm 0 0 0 0) #[(.int (2 : Int32))] Z h0 (Q24n2 Z  h0 n0) 0 0 := by
  refine own_body (plainFor_of_name pn_3) (fun m => by first | (simp [entryFrame, mkF, argsToLocals, Value.category]; done) | rfl) (Ls := #[.val (.int (2 : Int32))]) fun p e s m below meth c s₁ X0 hx hby hml hZ e0 hown hnm hlk hrt => ?_
  have N0 := Fr.nil n0
  refine own_ru 1 [(.int (2 : Int32))] X0 hx hby e24_0_1 rfl rfl ?_
  refine own_iY 12 X0 hx (hb hby d24_1) rfl ((if0 _ _).trans (flt (by decide : ¬ ((2 : Int32) < (0 : Int32)))).2.1) (by decide) (by decide) ?_
  refine own_ru 13 [(.int (2 : Int32))] X0 hx hby e24_12_1 rfl rfl ?_
  refine own_st 15 [(.int (1073741823 : Int32)), (.int (2 : Int32))] (X0.ldcInt hx hown (mvT hZ (wd107 hw)) (g := (mkF m 13 #[.val (.int (2 : Int32))] [(.int (2 : Int32))])) rfl (hb hby d24_13)) ?_
  refine own_kY 55 X0 hx (hb hby d24_15) rfl (tlt (by decide : ((2 : Int32) < (1073741823 : Int32)))).1 (by decide) (by decide) ?_
  refine own_ru 58 [(.int (4 : Int32))] X0 hx hby e24_55_3 rfl rfl ?_
  have hq100 : Q24n2 Z  h0 n0 (some (.int (4 : Int32))) h0 _ := ⟨rfl, N0, rfl⟩
  exact own_retI X0 hx hlk hrt (hb hby d24_58) e0 hq100 (by decide) (by decide)
def Q23n2 (Z : State)  (h0 : Heap) (n0 : Nat) (v : Option Value) (h : Heap) (L : List Loc) : Prop := ∃ ob : Addr, ∃ kk : ClassId, v = some (.ref ob) ∧ Fr n0 L ∧ Keep h0 h [] ∧ Arv Z h ob kk .byte (4 : Int32) [(.int (0 : Int32)), (.int (0 : Int32)), (.int (0 : Int32)), (.int (0 : Int32))] (.int (0 : Int32)) ∧ (h0.size ≤ ob)
set_option maxRecDepth 65536 in
set_option maxHeartbeats 40000000 in
theorem rm23n2 (l : Launch) (Z : State) (a0 : Array Value) (hw : OW a0 Z) (ws : List Jvm.Cond)  (h0 : Heap) (n0 : Nat) (Z0 : n0 ≤ h0.size)  :
    own_Met l my23 jdk_52_method_2_code 1 (some (.array .byte)) ws (own_rm 1 1 4 12) #[(.int (2 : Int32))] Z h0 (Q23n2 Z  h0 n0) 1 4 := by
  refine own_body (plainFor_of_name pn_3) (fun m => by first | (simp [entryFrame, mkF, argsToLocals, Value.category]; done) | rfl) (Ls := #[.val (.int (2 : Int32))]) fun p e s m below meth c s₁ X0 hx hby hml hZ e0 hown hnm hlk hrt => ?_
  have N0 := Fr.nil n0
  refine own_ru 1 [(.int (2 : Int32))] X0 hx hby e23_0_1 rfl rfl ?_
  refine own_cS X0 hx hZ hown (wd104 hw) (wd105 hw) (by decide) (wd106 hw) (wd45 hw) (rm24n2 l Z a0 hw []  h0 n0 (by omega) ) e0  [(.int (2 : Int32))] [] 4 0 (hb hby d23_1) rfl (by rw [hml]; rfl) rfl rfl (lenOf pd_7 rfl) rfl (by decide) fun v101 T101 Lc101 X101 hQ101 => ?_
  obtain ⟨rfl, N101q, e101⟩ := hQ101
  have N101 := Fr.app N0 N101q
  refine own_nP (aty := .byte) X101 hx hZ (wd20 hw) e101 6 (hb hby d23_4) rfl rfl (by decide) (cap := 4) (by decide) (by decide) (by decide) (by decide) (ad := "[B") rfl fun T102 h102 k102 b102 g102 X102 e102 E102 A102 B102 => ?_
  have ll102 : @LT.lt Nat _ b102 (Array.size h102) := A102.lt
  have KK102 : Keep h0 h102 [] := (Keep.refl h0 []).ext E102
  have z102 := E102.1
  have V102 : Arv Z h102 b102 k102 .byte (4 : Int32) [(.int (0 : Int32)), (.int (0 : Int32)), (.int (0 : Int32)), (.int (0 : Int32))] (.int (0 : Int32)) := (Arv.new A102 (by decide)).pad (pad_rep [] (.int (0 : Int32)) 4)
  have hq103 : Q23n2 Z  h0 n0 (some (.ref b102)) h102 _ := ⟨b102, k102, rfl, N101, KK102, V102, (by first | omega | assumption)⟩
  exact own_retR X102 hx hlk (w := (.ref b102)) rfl hrt rfl (hb hby d23_6) e102 hq103 (by decide) (by decide)
def Q22n2 (Z : State) (G1 : Int32) (G2 : Value) (ca : Addr) (kc : ClassId) (x0 : Int32) (x1 : Int32) (h0 : Heap) (n0 : Nat) (v : Option Value) (h : Heap) (L : List Loc) : Prop := ∃ ob : Addr, ∃ kk : ClassId, v = some (.ref ob) ∧ Fr n0 L ∧ Keep h0 h [] ∧ Arv Z h ob kk .byte (4 : Int32) [(.int (own_e0 x0)), (.int (own_e1 x0)), (.int (own_e0 x1)), (.int (own_e1 x1))] (.int (0 : Int32)) ∧ (h0.size ≤ ob)
set_option maxRecDepth 65536 in
set_option maxHeartbeats 40000000 in
theorem rm22n2 (l : Launch) (Z : State) (a0 : Array Value) (hw : OW a0 Z) (ws : List Jvm.Cond) (G1 : Int32) (G2 : Value) (ca : Addr) (kc : ClassId) (x0 : Int32) (x1 : Int32) (h0 : Heap) (n0 : Nat) (Z0 : n0 ≤ h0.size) (OLD : Old Z n0 h0) (A : Amb Z G1 G2) (P0 : Arv Z h0 ca kc .char (2 : Int32) [(.int x0), (.int x1)] (.int (0 : Int32))) :
    own_Met l my22 jdk_52_method_14_code 5 (some (.array .byte)) ws (own_rm 2 1 4 24) #[(.ref ca), (.int (0 : Int32)), (.int (2 : Int32))] Z h0 (Q22n2 Z G1 G2 ca kc x0 x1 h0 n0) 1 4 := by
  refine own_body (plainFor_of_name pn_3) (fun m => by first | (simp [entryFrame, mkF, argsToLocals, Value.category]; done) | rfl) (Ls := #[.val (.ref ca), .val (.int (0 : Int32)), .val (.int (2 : Int32)), .unset, .unset]) fun p e s m below meth c s₁ X0 hx hby hml hZ e0 hown hnm hlk hrt => ?_
  have N0 := Fr.nil n0
  have lt_P0 : @LT.lt Nat _ ca (Array.size h0) := P0.lt
  refine own_ru 1 [(.int (2 : Int32))] X0 hx hby e22_0_1 rfl rfl ?_
  refine own_cS X0 hx hZ hown (wd101 hw) (wd102 hw) (by decide) (wd103 hw) (wd45 hw) (rm23n2 l Z a0 hw []  h0 n0 (by omega) ) e0  [(.int (2 : Int32))] [] 4 0 (hb hby d22_1) rfl (by rw [hml]; rfl) rfl rfl (lenOf pd_8 rfl) rfl (by decide) fun v104 T104 Lc104 X104 hQ104 => ?_
  obtain ⟨ob_104, kk_104, rfl, N104q, K104, G104_0, U104_0⟩ := hQ104
  have N104 := Fr.app N0 N104q
  have z104 := K104.1
  have KK104 : Keep h0 T104.heap [] := (Keep.refl h0 []).trans K104 all0
  have lt104_0 : @LT.lt Nat _ ob_104 (Array.size T104.heap) := G104_0.lt
  refine own_rl 11 #[.val (.ref ca), .val (.int (0 : Int32)), .val (.int (2 : Int32)), .val (.ref ob_104), .val (.int (0 : Int32))] [(.int (2 : Int32)), (.int (0 : Int32))] X104 hx hby e22_4_5 rfl rfl ?_
  refine own_kN 14 X104 hx (hb hby d22_11) rfl (tlt (by decide : ((0 : Int32) < (2 : Int32)))).2.1 rfl ?_
  refine own_ru 19 [(.int (0 : Int32)), (.ref ca), (.int (0 : Int32)), (.ref ob_104)] X104 hx hby e22_14_4 rfl rfl ?_
  have f105 := (P0.keep K104 nin0)
  obtain ⟨cl106, Ar106, q106, S106, N106z, Hs106, G106⟩ := id f105
  have hin106 : ¬ ((0 : Int32) < 0 ∨ cl106.slots.size ≤ ((0 : Int32)).toNatClampNeg) := inb_of S106 ⟨by decide, by decide⟩
  have hat106 : cl106.slots[((0 : Int32)).toNatClampNeg]? = some (.int x0) := Hs106.at hin106 rfl
  refine own_st 20 [(.int x0), (.int (0 : Int32)), (.ref ob_104)] (X104.caload hx (j := (0 : Int32)) (v := (.int x0)) Ar106.1 (State.isArrayOf_alike hZ.alike Ar106.2.1) Ar106.2.2 hin106 hat106 (g := (mkF m 19 #[.val (.ref ca), .val (.int (0 : Int32)), .val (.int (2 : Int32)), .val (.ref ob_104), .val (.int (0 : Int32))] [(.int (0 : Int32)), (.ref ca), (.int (0 : Int32)), (.ref ob_104)])) rfl rfl (hb hby d22_19)) ?_
  have f107 := (OLD.keep K104 all0)
  refine own_cS X104 hx hZ hown (wd108 hw) (wd109 hw) (by decide) (wd110 hw) (wd45 hw) (rm25 l Z a0 hw [] G1 G2 ob_104 (0 : Int32) x0 kk_104 (4 : Int32) [(.int (0 : Int32)), (.int (0 : Int32)), (.int (0 : Int32)), (.int (0 : Int32))] T104.heap n0 (by omega) f107 A G104_0 (by omega) ⟨by decide, by decide⟩ ⟨by decide, by decide⟩ (Nat.le_of_ble_eq_true rfl) (Nat.le_of_ble_eq_true rfl)) rfl  [(.ref ob_104), (.int (0 : Int32)), (.int x0)] [] 23 0 (hb hby d22_20) rfl (by rw [hml]; rfl) rfl rfl (lenOf pd_9 rfl) rfl (by decide) fun v108 T108 Lc108 X108 hQ108 => ?_
  obtain ⟨rfl, N108q, K108, G108_0⟩ := hQ108
  have N108 := Fr.app N104 N108q
  have z108 := K108.1
  have KK108 : Keep h0 T108.heap [] := KK104.trans K108 (allS (Or.inr (by omega)) all0)
  have G108_0' : Arv Z T108.heap ob_104 kk_104 .byte (4 : Int32) [(.int (own_e0 x0)), (.int (own_e1 x0)), (.int (0 : Int32)), (.int (0 : Int32))] (.int (0 : Int32)) := G108_0
  have lt108_0 : @LT.lt Nat _ ob_104 (Array.size T108.heap) := G108_0.lt
  refine own_rl 29 #[.val (.ref ca), .val (.int (1 : Int32)), .val (.int (2 : Int32)), .val (.ref ob_104), .val (.int (1 : Int32))] [] X108 hx hby e22_23_2 rfl rfl ?_
  refine own_go 8 X108 hx (hb hby d22_29) (by decide) (by decide) ?_
  refine own_ru 11 [(.int (2 : Int32)), (.int (1 : Int32))] X108 hx hby e22_8_2 rfl rfl ?_
  refine own_kN 14 X108 hx (hb hby d22_11) rfl (tlt (by decide : ((1 : Int32) < (2 : Int32)))).2.1 rfl ?_
  refine own_ru 19 [(.int (1 : Int32)), (.ref ca), (.int (1 : Int32)), (.ref ob_104)] X108 hx hby e22_14_4 rfl rfl ?_
  have f109 := (f105.keep K108 (own_nS (by omega) nin0))
  obtain ⟨cl110, Ar110, q110, S110, N110z, Hs110, G110⟩ := id f109
  have hin110 : ¬ ((1 : Int32) < 0 ∨ cl110.slots.size ≤ ((1 : Int32)).toNatClampNeg) := inb_of S110 ⟨by decide, by decide⟩
  have hat110 : cl110.slots[((1 : Int32)).toNatClampNeg]? = some (.int x1) := Hs110.at hin110 rfl
  refine own_st 20 [(.int x1), (.int (1 : Int32)), (.ref ob_104)] (X108.caload hx (j := (1 : Int32)) (v := (.int x1)) Ar110.1 (State.isArrayOf_alike hZ.alike Ar110.2.1) Ar110.2.2 hin110 hat110 (g := (mkF m 19 #[.val (.ref ca), .val (.int (1 : Int32)), .val (.int (2 : Int32)), .val (.ref ob_104), .val (.int (1 : Int32))] [(.int (1 : Int32)), (.ref ca), (.int (1 : Int32)), (.ref ob_104)])) rfl rfl (hb hby d22_19)) ?_
  have f111 := (f107.keep K108 (allS (by omega) all0))
  refine own_cS X108 hx hZ hown (wd108 hw) (wd109 hw) (by decide) (wd110 hw) (wd45 hw) (rm25 l Z a0 hw [] G1 G2 ob_104 (1 : Int32) x1 kk_104 (4 : Int32) [(.int (own_e0 x0)), (.int (own_e1 x0)), (.int (0 : Int32)), (.int (0 : Int32))] T108.heap n0 (by omega) f111 A G108_0' (by omega) ⟨by decide, by decide⟩ ⟨by decide, by decide⟩ (Nat.le_of_ble_eq_true rfl) (Nat.le_of_ble_eq_true rfl)) rfl  [(.ref ob_104), (.int (1 : Int32)), (.int x1)] [] 23 0 (hb hby d22_20) rfl (by rw [hml]; rfl) rfl rfl (lenOf pd_9 rfl) rfl (by decide) fun v112 T112 Lc112 X112 hQ112 => ?_
  obtain ⟨rfl, N112q, K112, G112_0⟩ := hQ112
  have N112 := Fr.app N108 N112q
  have z112 := K112.1
  have KK112 : Keep h0 T112.heap [] := KK108.trans K112 (allS (Or.inr (by omega)) all0)
  have G112_0' : Arv Z T112.heap ob_104 kk_104 .byte (4 : Int32) [(.int (own_e0 x0)), (.int (own_e1 x0)), (.int (own_e0 x1)), (.int (own_e1 x1))] (.int (0 : Int32)) := G112_0
  have lt112_0 : @LT.lt Nat _ ob_104 (Array.size T112.heap) := G112_0.lt
  refine own_rl 29 #[.val (.ref ca), .val (.int (2 : Int32)), .val (.int (2 : Int32)), .val (.ref ob_104), .val (.int (2 : Int32))] [] X112 hx hby e22_23_2 rfl rfl ?_
  refine own_go 8 X112 hx (hb hby d22_29) (by decide) (by decide) ?_
  refine own_ru 11 [(.int (2 : Int32)), (.int (2 : Int32))] X112 hx hby e22_8_2 rfl rfl ?_
  refine own_kY 32 X112 hx (hb hby d22_11) rfl (flt (by decide : ¬ ((2 : Int32) < (2 : Int32)))).2.1 (by decide) (by decide) ?_
  refine own_ru 33 [(.ref ob_104)] X112 hx hby e22_32_1 rfl rfl ?_
  have hq113 : Q22n2 Z G1 G2 ca kc x0 x1 h0 n0 (some (.ref ob_104)) T112.heap _ := ⟨ob_104, kk_104, rfl, N112, KK112, G112_0', (by first | omega | assumption)⟩
  exact own_retR X112 hx hlk (w := (.ref ob_104)) rfl hrt rfl (hb hby d22_33) rfl hq113 (by decide) (by decide)
def Q9n2 (Z : State) (ca : Addr) (bb : Addr) (kc : ClassId) (kb : ClassId) (x0 : Int32) (x1 : Int32) (h0 : Heap) (n0 : Nat) (v : Option Value) (h : Heap) (L : List Loc) : Prop := ∃ r : Int32, ∃ vz : List Value, v = some (.int r) ∧ Fr n0 L ∧ Keep h0 h [bb] ∧ Arv Z h bb kb .byte (2 : Int32) vz (.int (0 : Int32)) ∧ ((r = (2 : Int32) ∧ vz = [(.int (own_b8 x0)), (.int (own_b8 x1))] ∧ ¬ (255 : Int32) < x0 ∧ ¬ (255 : Int32) < x1) ∨ (r = (0 : Int32) ∧ (255 : Int32) < x0) ∨ (r = (1 : Int32) ∧ (255 : Int32) < x1))
set_option maxRecDepth 65536 in
set_option maxHeartbeats 40000000 in
theorem rm9n2 (l : Launch) (Z : State) (a0 : Array Value) (hw : OW a0 Z) (ws : List Jvm.Cond) (ca : Addr) (bb : Addr) (kc : ClassId) (kb : ClassId) (x0 : Int32) (x1 : Int32) (h0 : Heap) (n0 : Nat) (Z0 : n0 ≤ h0.size) (P0 : Arv Z h0 ca kc .char (2 : Int32) [(.int x0), (.int x1)] (.int (0 : Int32))) (P1 : Arv Z h0 bb kb .byte (2 : Int32) [(.int (0 : Int32)), (.int (0 : Int32))] (.int (0 : Int32))) (g_bb : n0 ≤ bb) (hne : @Ne Nat ca bb) :
    own_Met l my9 jdk_52_method_21_code 7 (some .int) ws (own_rm 0 0 0 0) #[(.ref ca), (.int (0 : Int32)), (.ref bb), (.int (0 : Int32)), (.int (2 : Int32))] Z h0 (Q9n2 Z ca bb kc kb x0 x1 h0 n0) 0 0 := by
  refine own_body (plainFor_of_name pn_3) (fun m => by first | (simp [entryFrame, mkF, argsToLocals, Value.category]; done) | rfl) (Ls := #[.val (.ref ca), .val (.int (0 : Int32)), .val (.ref bb), .val (.int (0 : Int32)), .val (.int (2 : Int32)), .unset, .unset]) fun p e s m below meth c s₁ X0 hx hby hml hZ e0 hown hnm hlk hrt => ?_
  have N0 := Fr.nil n0
  have lt_P0 : @LT.lt Nat _ ca (Array.size h0) := P0.lt
  have lt_P1 : @LT.lt Nat _ bb (Array.size h0) := P1.lt
  refine own_rl 7 #[.val (.ref ca), .val (.int (0 : Int32)), .val (.ref bb), .val (.int (0 : Int32)), .val (.int (2 : Int32)), .val (.int (0 : Int32)), .unset] [(.int (2 : Int32)), (.int (0 : Int32))] X0 hx hby e9_0_4 rfl rfl ?_
  refine own_kN 10 X0 hx (hb hby d9_7) rfl (tlt (by decide : ((0 : Int32) < (2 : Int32)))).2.1 rfl ?_
  refine own_ru 12 [(.int (0 : Int32)), (.ref ca)] X0 hx hby e9_10_2 rfl rfl ?_
  obtain ⟨cl114, Ar114, q114, S114, N114z, Hs114, G114⟩ := id P0
  have hin114 : ¬ ((0 : Int32) < 0 ∨ cl114.slots.size ≤ ((0 : Int32)).toNatClampNeg) := inb_of S114 ⟨by decide, by decide⟩
  have hat114 : cl114.slots[((0 : Int32)).toNatClampNeg]? = some (.int x0) := Hs114.at hin114 rfl
  refine own_st 13 [(.int x0)] (X0.caload hx (j := (0 : Int32)) (v := (.int x0)) (by rw [e0]; exact Ar114.1) (State.isArrayOf_alike hZ.alike Ar114.2.1) Ar114.2.2 hin114 hat114 (g := (mkF m 12 #[.val (.ref ca), .val (.int (0 : Int32)), .val (.ref bb), .val (.int (0 : Int32)), .val (.int (2 : Int32)), .val (.int (0 : Int32)), .unset] [(.int (0 : Int32)), (.ref ca)])) rfl rfl (hb hby d9_12)) ?_
  refine own_rl 20 #[.val (.ref ca), .val (.int (0 : Int32)), .val (.ref bb), .val (.int (0 : Int32)), .val (.int (2 : Int32)), .val (.int (0 : Int32)), .val (.int x0)] [(.int (255 : Int32)), (.int x0)] X0 hx hby e9_13_3 rfl rfl ?_
  by_cases hc20 : (255 : Int32) < x0
  · refine own_kN 23 X0 hx (hb hby d9_20) rfl (tlt hc20).2.2.2 rfl ?_
    refine own_ru 25 [(.int (0 : Int32))] X0 hx hby e9_23_1 rfl rfl ?_
    have hq115 : Q9n2 Z ca bb kc kb x0 x1 h0 n0 (some (.int (0 : Int32))) h0 _ := ⟨(0 : Int32), [(.int (0 : Int32)), (.int (0 : Int32))], rfl, N0, (Keep.refl h0 [bb]), P1, (Or.inr (Or.inl ⟨rfl, hc20⟩))⟩
    exact own_retI X0 hx hlk hrt (hb hby d9_25) e0 hq115 (by decide) (by decide)
  · refine own_kY 26 X0 hx (hb hby d9_20) rfl (flt hc20).2.2.2 (by decide) (by decide) ?_
    refine own_ru 31 [(.int (x0.toInt8.toInt32)), (.int (0 : Int32)), (.ref bb)] X0 hx hby e9_26_4 rfl rfl ?_
    obtain ⟨cl116, Ar116, q116, S116, N116z, Hs116, G116⟩ := id P1
    have hin116 : ¬ ((0 : Int32) < 0 ∨ cl116.slots.size ≤ ((0 : Int32)).toNatClampNeg) := inb_of S116 ⟨by decide, by decide⟩
    obtain ⟨T117, h117, X117, e117, W117, st117⟩ := stB X0 hx hZ e0 Ar116 (j := (0 : Int32)) hin116 (g := (mkF m 31 #[.val (.ref ca), .val (.int (0 : Int32)), .val (.ref bb), .val (.int (0 : Int32)), .val (.int (2 : Int32)), .val (.int (0 : Int32)), .val (.int x0)] [(.int (x0.toInt8.toInt32)), (.int (0 : Int32)), (.ref bb)])) rfl rfl (hb hby d9_31)
    have V117 : Arv Z h117 bb kb .byte (2 : Int32) [(.int (nar .byte (x0.toInt8.toInt32))), (.int (0 : Int32))] (.int (0 : Int32)) := Arv.set Ar116 q116 S116 N116z Hs116 G116 (fits_nar_byte _) W117 0 rfl (Nat.le_of_ble_eq_true rfl)
    have z117 := W117.size
    have KK117 : Keep h0 h117 [bb] := (Keep.refl h0 [bb]).wr W117 (Or.inl (by simp))
    have N117 := Fr.snoc X117 N0 (by omega)
    refine own_sT 32 [] st117 ?_
    refine own_rl 41 #[.val (.ref ca), .val (.int (1 : Int32)), .val (.ref bb), .val (.int (1 : Int32)), .val (.int (2 : Int32)), .val (.int (1 : Int32)), .val (.int x0)] [] X117 hx hby e9_32_3 rfl rfl ?_
    refine own_go 3 X117 hx (hb hby d9_41) (by decide) (by decide) ?_
    refine own_ru 7 [(.int (2 : Int32)), (.int (1 : Int32))] X117 hx hby e9_3_2 rfl rfl ?_
    refine own_kN 10 X117 hx (hb hby d9_7) rfl (tlt (by decide : ((1 : Int32) < (2 : Int32)))).2.1 rfl ?_
    refine own_ru 12 [(.int (1 : Int32)), (.ref ca)] X117 hx hby e9_10_2 rfl rfl ?_
    have f118 := (P0.other W117 (own_ne (by omega)))
    obtain ⟨cl119, Ar119, q119, S119, N119z, Hs119, G119⟩ := id f118
    have hin119 : ¬ ((1 : Int32) < 0 ∨ cl119.slots.size ≤ ((1 : Int32)).toNatClampNeg) := inb_of S119 ⟨by decide, by decide⟩
    have hat119 : cl119.slots[((1 : Int32)).toNatClampNeg]? = some (.int x1) := Hs119.at hin119 rfl
    refine own_st 13 [(.int x1)] (X117.caload hx (j := (1 : Int32)) (v := (.int x1)) (by rw [e117]; exact Ar119.1) (State.isArrayOf_alike hZ.alike Ar119.2.1) Ar119.2.2 hin119 hat119 (g := (mkF m 12 #[.val (.ref ca), .val (.int (1 : Int32)), .val (.ref bb), .val (.int (1 : Int32)), .val (.int (2 : Int32)), .val (.int (1 : Int32)), .val (.int x0)] [(.int (1 : Int32)), (.ref ca)])) rfl rfl (hb hby d9_12)) ?_
    refine own_rl 20 #[.val (.ref ca), .val (.int (1 : Int32)), .val (.ref bb), .val (.int (1 : Int32)), .val (.int (2 : Int32)), .val (.int (1 : Int32)), .val (.int x1)] [(.int (255 : Int32)), (.int x1)] X117 hx hby e9_13_3 rfl rfl ?_
    by_cases hc20b : (255 : Int32) < x1
    · refine own_kN 23 X117 hx (hb hby d9_20) rfl (tlt hc20b).2.2.2 rfl ?_
      refine own_ru 25 [(.int (1 : Int32))] X117 hx hby e9_23_1 rfl rfl ?_
      have hq120 : Q9n2 Z ca bb kc kb x0 x1 h0 n0 (some (.int (1 : Int32))) h117 _ := ⟨(1 : Int32), [(.int (nar .byte (x0.toInt8.toInt32))), (.int (0 : Int32))], rfl, N117, KK117, V117, (Or.inr (Or.inr (⟨rfl, hc20b⟩)))⟩
      exact own_retI X117 hx hlk hrt (hb hby d9_25) e117 hq120 (by decide) (by decide)
    · refine own_kY 26 X117 hx (hb hby d9_20) rfl (flt hc20b).2.2.2 (by decide) (by decide) ?_
      refine own_ru 31 [(.int (x1.toInt8.toInt32)), (.int (1 : Int32)), (.ref bb)] X117 hx hby e9_26_4 rfl rfl ?_
      obtain ⟨cl121, Ar121, q121, S121, N121z, Hs121, G121⟩ := id V117
      have hin121 : ¬ ((1 : Int32) < 0 ∨ cl121.slots.size ≤ ((1 : Int32)).toNatClampNeg) := inb_of S121 ⟨by decide, by decide⟩
      obtain ⟨T122, h122, X122, e122, W122, st122⟩ := stB X117 hx hZ e117 Ar121 (j := (1 : Int32)) hin121 (g := (mkF m 31 #[.val (.ref ca), .val (.int (1 : Int32)), .val (.ref bb), .val (.int (1 : Int32)), .val (.int (2 : Int32)), .val (.int (1 : Int32)), .val (.int x1)] [(.int (x1.toInt8.toInt32)), (.int (1 : Int32)), (.ref bb)])) rfl rfl (hb hby d9_31)
      have V122 : Arv Z h122 bb kb .byte (2 : Int32) [(.int (nar .byte (x0.toInt8.toInt32))), (.int (nar .byte (x1.toInt8.toInt32)))] (.int (0 : Int32)) := Arv.set Ar121 q121 S121 N121z Hs121 G121 (fits_nar_byte _) W122 1 rfl (Nat.le_of_ble_eq_true rfl)
      have z122 := W122.size
      have KK122 : Keep h0 h122 [bb] := KK117.wr W122 (Or.inl (by simp))
      have N122 := Fr.snoc X122 N117 (by omega)
      refine own_sT 32 [] st122 ?_
      refine own_rl 41 #[.val (.ref ca), .val (.int (2 : Int32)), .val (.ref bb), .val (.int (2 : Int32)), .val (.int (2 : Int32)), .val (.int (2 : Int32)), .val (.int x1)] [] X122 hx hby e9_32_3 rfl rfl ?_
      refine own_go 3 X122 hx (hb hby d9_41) (by decide) (by decide) ?_
      refine own_ru 7 [(.int (2 : Int32)), (.int (2 : Int32))] X122 hx hby e9_3_2 rfl rfl ?_
      refine own_kY 44 X122 hx (hb hby d9_7) rfl (flt (by decide : ¬ ((2 : Int32) < (2 : Int32)))).2.1 (by decide) (by decide) ?_
      refine own_ru 46 [(.int (2 : Int32))] X122 hx hby e9_44_1 rfl rfl ?_
      have hq123 : Q9n2 Z ca bb kc kb x0 x1 h0 n0 (some (.int (2 : Int32))) h122 _ := ⟨(2 : Int32), [(.int (nar .byte (x0.toInt8.toInt32))), (.int (nar .byte (x1.toInt8.toInt32)))], rfl, N122, KK122, V122, (Or.inl ⟨rfl, rfl, hc20, hc20b⟩)⟩
      exact own_retI X122 hx hlk hrt (hb hby d9_46) e122 hq123 (by decide) (by decide)
def own_By2 (Z : State) (h : Heap) (ob : Addr) (x0 : Int32) (x1 : Int32) : Prop := (∃ kk : ClassId, Arv Z h ob kk .byte (2 : Int32) [(.int (own_b8 x0)), (.int (own_b8 x1))] (.int (0 : Int32)) ∧ ¬ (255 : Int32) < x0 ∧ ¬ (255 : Int32) < x1) ∨ (∃ kk : ClassId, Arv Z h ob kk .byte (4 : Int32) [(.int (own_e0 x0)), (.int (own_e1 x0)), (.int (own_e0 x1)), (.int (own_e1 x1))] (.int (0 : Int32)))
def Q8n2 (Z : State) (G1 : Int32) (G2 : Value) (ca : Addr) (kc : ClassId) (x0 : Int32) (x1 : Int32) (h0 : Heap) (n0 : Nat) (v : Option Value) (h : Heap) (L : List Loc) : Prop := ∃ ob : Addr, v = some (.ref ob) ∧ Fr n0 L ∧ Keep h0 h [] ∧ own_By2 Z h ob x0 x1 ∧ (h0.size ≤ ob)
set_option maxRecDepth 65536 in
set_option maxHeartbeats 40000000 in
theorem rm8n2 (l : Launch) (Z : State) (a0 : Array Value) (hw : OW a0 Z) (ws : List Jvm.Cond) (G1 : Int32) (G2 : Value) (ca : Addr) (kc : ClassId) (x0 : Int32) (x1 : Int32) (h0 : Heap) (n0 : Nat) (Z0 : n0 ≤ h0.size) (OLD : Old Z n0 h0) (A : Amb Z G1 G2) (P0 : Arv Z h0 ca kc .char (2 : Int32) [(.int x0), (.int x1)] (.int (0 : Int32))) (hx0 : own_ch x0) (hx1 : own_ch x1) :
    own_Met l my8 jdk_52_method_16_code 6 (some (.array .byte)) ws (own_rm 3 2 6 40) #[(.ref ca), (.int (0 : Int32)), (.int (2 : Int32))] Z h0 (Q8n2 Z G1 G2 ca kc x0 x1 h0 n0) 2 6 := by
  refine own_body (plainFor_of_name pn_3) (fun m => by first | (simp [entryFrame, mkF, argsToLocals, Value.category]; done) | rfl) (Ls := #[.val (.ref ca), .val (.int (0 : Int32)), .val (.int (2 : Int32)), .unset, .unset, .unset]) fun p e s m below meth c s₁ X0 hx hby hml hZ e0 hown hnm hlk hrt => ?_
  have N0 := Fr.nil n0
  have lt_P0 : @LT.lt Nat _ ca (Array.size h0) := P0.lt
  refine own_ru 1 [(.int (2 : Int32))] X0 hx hby e8_0_1 rfl rfl ?_
  refine own_nP (aty := .byte) X0 hx hZ (wd20 hw) e0 3 (hb hby d8_1) rfl rfl (by decide) (cap := 2) (by decide) (by decide) (by decide) (by decide) (ad := "[B") rfl fun T124 h124 k124 b124 g124 X124 e124 E124 A124 B124 => ?_
  have ll124 : @LT.lt Nat _ b124 (Array.size h124) := A124.lt
  have KK124 : Keep h0 h124 [] := (Keep.refl h0 []).ext E124
  have z124 := E124.1
  have V124 : Arv Z h124 b124 k124 .byte (2 : Int32) [(.int (0 : Int32)), (.int (0 : Int32))] (.int (0 : Int32)) := (Arv.new A124 (by decide)).pad (pad_rep [] (.int (0 : Int32)) 2)
  refine own_rl 9 #[.val (.ref ca), .val (.int (0 : Int32)), .val (.int (2 : Int32)), .val (.ref b124), .unset, .unset] [(.int (2 : Int32)), (.int (0 : Int32)), (.ref b124), (.int (0 : Int32)), (.ref ca)] X124 hx hby e8_3_6 rfl rfl ?_
  have f125 := (P0.ext E124)
  refine own_cS X124 hx hZ hown (wd47 hw) (wd48 hw) (by decide) (wd49 hw) (wd45 hw) (rm9n2 l Z a0 hw [] ca b124 kc k124 x0 x1 h124 n0 (by omega) f125 V124 (by omega) (by first | assumption | decide | omega)) e124  [(.ref ca), (.int (0 : Int32)), (.ref b124), (.int (0 : Int32)), (.int (2 : Int32))] [] 12 0 (hb hby d8_9) rfl (by rw [hml]; rfl) rfl rfl (lenOf pd_10 rfl) rfl (by decide) fun v126 T126 Lc126 X126 hQ126 => ?_
  obtain ⟨r_126, vz_126, rfl, N126q, K126, G126_0, U126_0⟩ := hQ126
  have N126 := Fr.app N0 N126q
  have z126 := K126.1
  have KK126 : Keep h0 T126.heap [] := KK124.trans K126 (allS (Or.inr (by omega)) all0)
  have lt126_0 : @LT.lt Nat _ b124 (Array.size T126.heap) := G126_0.lt
  rcases U126_0 with ⟨hr, hvz, hb0, hb1⟩ | ⟨hr, hgt⟩ | ⟨hr, hgt⟩
  · subst hr hvz
    refine own_rl 17 #[.val (.ref ca), .val (.int (0 : Int32)), .val (.int (2 : Int32)), .val (.ref b124), .val (.int (2 : Int32)), .unset] [(.int (2 : Int32)), (.int (2 : Int32))] X126 hx hby e8_12_3 rfl rfl ?_
    refine own_kY 57 X126 hx (hb hby d8_17) rfl (teq (by decide : ((2 : Int32) = (2 : Int32)))).1 (by decide) (by decide) ?_
    refine own_ru 58 [(.ref b124)] X126 hx hby e8_57_1 rfl rfl ?_
    have hq127 : Q8n2 Z G1 G2 ca kc x0 x1 h0 n0 (some (.ref b124)) T126.heap _ := ⟨b124, rfl, N126, KK126, Or.inl ⟨k124, G126_0, hb0, hb1⟩, (by first | omega | assumption)⟩
    exact own_retR X126 hx hlk (w := (.ref b124)) rfl hrt rfl (hb hby d8_58) rfl hq127 (by decide) (by decide)
  · subst hr
    refine own_rl 17 #[.val (.ref ca), .val (.int (0 : Int32)), .val (.int (2 : Int32)), .val (.ref b124), .val (.int (0 : Int32)), .unset] [(.int (2 : Int32)), (.int (0 : Int32))] X126 hx hby e8_12_3 rfl rfl ?_
    refine own_kN 20 X126 hx (hb hby d8_17) rfl (feq (by decide : ¬ ((0 : Int32) = (2 : Int32)))).1 rfl ?_
    refine own_ru 23 [(.int (2 : Int32)), (.int (0 : Int32)), (.ref ca)] X126 hx hby e8_20_3 rfl rfl ?_
    have f128 := ((OLD.ext E124).keep K126 (allS (by omega) all0))
    have f129 := (f125.keep K126 (own_nS (by omega) nin0))
    refine own_cS X126 hx hZ hown (wd98 hw) (wd99 hw) (by decide) (wd100 hw) (wd45 hw) (rm22n2 l Z a0 hw [] G1 G2 ca kc x0 x1 T126.heap n0 (by omega) f128 A f129) rfl  [(.ref ca), (.int (0 : Int32)), (.int (2 : Int32))] [] 26 0 (hb hby d8_23) rfl (by rw [hml]; rfl) rfl rfl (lenOf pd_11 rfl) rfl (by decide) fun v130 T130 Lc130 X130 hQ130 => ?_
    obtain ⟨ob_130, kk_130, rfl, N130q, K130, G130_0, U130_0⟩ := hQ130
    have N130 := Fr.app N126 N130q
    have z130 := K130.1
    have KK130 : Keep h0 T130.heap [] := KK126.trans K130 all0
    have lt130_0 : @LT.lt Nat _ ob_130 (Array.size T130.heap) := G130_0.lt
    refine own_rl 32 #[.val (.ref ca), .val (.int (0 : Int32)), .val (.int (2 : Int32)), .val (.ref b124), .val (.int (0 : Int32)), .val (.ref ob_130)] [(.int (0 : Int32)), (.ref ob_130)] X130 hx hby e8_26_3 rfl rfl ?_
    have f131 := (f128.keep K130 all0)
    refine own_cS X130 hx hZ hown (wd114 hw) (wd115 hw) (by decide) (wd116 hw) (wd45 hw) (rm26 l Z a0 hw [] G1 G2 ob_130 (0 : Int32) kk_130 (4 : Int32) [(.int (own_e0 x0)), (.int (own_e1 x0)), (.int (own_e0 x1)), (.int (own_e1 x1))] (own_e0 x0) (own_e1 x0) T130.heap n0 (by omega) f131 A G130_0 ⟨by decide, by decide⟩ ⟨by decide, by decide⟩ rfl rfl) rfl  [(.ref ob_130), (.int (0 : Int32))] [] 35 0 (hb hby d8_32) rfl (by rw [hml]; rfl) rfl rfl (lenOf pd_5 rfl) rfl (by decide) fun v132 T132 Lc132 X132 hQ132 => ?_
    obtain ⟨rfl, N132q, e132⟩ := hQ132
    have N132 := Fr.app N130 N132q
    refine own_ru 38 [(.int (255 : Int32)), (.int (own_u (own_e0 x0) (own_e1 x0)))] X132 hx hby e8_35_1 rfl rfl ?_
    refine own_kY 54 X132 hx (hb hby d8_38) rfl (tlt (by rw [own_uOk hx0]; exact hgt)).2.2.1 (by decide) (by decide) ?_
    refine own_ru 56 [(.ref ob_130)] X132 hx hby e8_54_1 rfl rfl ?_
    have hq133 : Q8n2 Z G1 G2 ca kc x0 x1 h0 n0 (some (.ref ob_130)) T130.heap _ := ⟨ob_130, rfl, N132, KK130, Or.inr ⟨kk_130, G130_0⟩, (by first | omega | assumption)⟩
    exact own_retR X132 hx hlk (w := (.ref ob_130)) rfl hrt rfl (hb hby d8_56) e132 hq133 (by decide) (by decide)
  · subst hr
    refine own_rl 17 #[.val (.ref ca), .val (.int (0 : Int32)), .val (.int (2 : Int32)), .val (.ref b124), .val (.int (1 : Int32)), .unset] [(.int (2 : Int32)), (.int (1 : Int32))] X126 hx hby e8_12_3 rfl rfl ?_
    refine own_kN 20 X126 hx (hb hby d8_17) rfl (feq (by decide : ¬ ((1 : Int32) = (2 : Int32)))).1 rfl ?_
    refine own_ru 23 [(.int (2 : Int32)), (.int (0 : Int32)), (.ref ca)] X126 hx hby e8_20_3 rfl rfl ?_
    have f134 := ((OLD.ext E124).keep K126 (allS (by omega) all0))
    have f135 := (f125.keep K126 (own_nS (by omega) nin0))
    refine own_cS X126 hx hZ hown (wd98 hw) (wd99 hw) (by decide) (wd100 hw) (wd45 hw) (rm22n2 l Z a0 hw [] G1 G2 ca kc x0 x1 T126.heap n0 (by omega) f134 A f135) rfl  [(.ref ca), (.int (0 : Int32)), (.int (2 : Int32))] [] 26 0 (hb hby d8_23) rfl (by rw [hml]; rfl) rfl rfl (lenOf pd_11 rfl) rfl (by decide) fun v136 T136 Lc136 X136 hQ136 => ?_
    obtain ⟨ob_136, kk_136, rfl, N136q, K136, G136_0, U136_0⟩ := hQ136
    have N136 := Fr.app N126 N136q
    have z136 := K136.1
    have KK136 : Keep h0 T136.heap [] := KK126.trans K136 all0
    have lt136_0 : @LT.lt Nat _ ob_136 (Array.size T136.heap) := G136_0.lt
    refine own_rl 32 #[.val (.ref ca), .val (.int (0 : Int32)), .val (.int (2 : Int32)), .val (.ref b124), .val (.int (1 : Int32)), .val (.ref ob_136)] [(.int (1 : Int32)), (.ref ob_136)] X136 hx hby e8_26_3 rfl rfl ?_
    have f137 := (f134.keep K136 all0)
    refine own_cS X136 hx hZ hown (wd114 hw) (wd115 hw) (by decide) (wd116 hw) (wd45 hw) (rm26 l Z a0 hw [] G1 G2 ob_136 (1 : Int32) kk_136 (4 : Int32) [(.int (own_e0 x0)), (.int (own_e1 x0)), (.int (own_e0 x1)), (.int (own_e1 x1))] (own_e0 x1) (own_e1 x1) T136.heap n0 (by omega) f137 A G136_0 ⟨by decide, by decide⟩ ⟨by decide, by decide⟩ rfl rfl) rfl  [(.ref ob_136), (.int (1 : Int32))] [] 35 0 (hb hby d8_32) rfl (by rw [hml]; rfl) rfl rfl (lenOf pd_5 rfl) rfl (by decide) fun v138 T138 Lc138 X138 hQ138 => ?_
    obtain ⟨rfl, N138q, e138⟩ := hQ138
    have N138 := Fr.app N136 N138q
    refine own_ru 38 [(.int (255 : Int32)), (.int (own_u (own_e0 x1) (own_e1 x1)))] X138 hx hby e8_35_1 rfl rfl ?_
    refine own_kY 54 X138 hx (hb hby d8_38) rfl (tlt (by rw [own_uOk hx1]; exact hgt)).2.2.1 (by decide) (by decide) ?_
    refine own_ru 56 [(.ref ob_136)] X138 hx hby e8_54_1 rfl rfl ?_
    have hq139 : Q8n2 Z G1 G2 ca kc x0 x1 h0 n0 (some (.ref ob_136)) T136.heap _ := ⟨ob_136, rfl, N138, KK136, Or.inr ⟨kk_136, G136_0⟩, (by first | omega | assumption)⟩
    exact own_retR X138 hx hlk (w := (.ref ob_136)) rfl hrt rfl (hb hby d8_56) e138 hq139 (by decide) (by decide)
def Q24n3 (Z : State)  (h0 : Heap) (n0 : Nat) (v : Option Value) (h : Heap) (L : List Loc) : Prop := v = some (.int (6 : Int32)) ∧ Fr n0 L ∧ h = h0
set_option maxRecDepth 65536 in
set_option maxHeartbeats 40000000 in
theorem rm24n3 (l : Launch) (Z : State) (a0 : Array Value) (hw : OW a0 Z) (ws : List Jvm.Cond)  (h0 : Heap) (n0 : Nat) (Z0 : n0 ≤ h0.size)  :
    own_Met l my24 jdk_52_method_3_code 1 (some .int) ws (own_rm 0 0 0 0) #[(.int (3 : Int32))] Z h0 (Q24n3 Z  h0 n0) 0 0 := by
  refine own_body (plainFor_of_name pn_3) (fun m => by first | (simp [entryFrame, mkF, argsToLocals, Value.category]; done) | rfl) (Ls := #[.val (.int (3 : Int32))]) fun p e s m below meth c s₁ X0 hx hby hml hZ e0 hown hnm hlk hrt => ?_
  have N0 := Fr.nil n0
  refine own_ru 1 [(.int (3 : Int32))] X0 hx hby e24_0_1 rfl rfl ?_
  refine own_iY 12 X0 hx (hb hby d24_1) rfl ((if0 _ _).trans (flt (by decide : ¬ ((3 : Int32) < (0 : Int32)))).2.1) (by decide) (by decide) ?_
  refine own_ru 13 [(.int (3 : Int32))] X0 hx hby e24_12_1 rfl rfl ?_
  refine own_st 15 [(.int (1073741823 : Int32)), (.int (3 : Int32))] (X0.ldcInt hx hown (mvT hZ (wd107 hw)) (g := (mkF m 13 #[.val (.int (3 : Int32))] [(.int (3 : Int32))])) rfl (hb hby d24_13)) ?_
  refine own_kY 55 X0 hx (hb hby d24_15) rfl (tlt (by decide : ((3 : Int32) < (1073741823 : Int32)))).1 (by decide) (by decide) ?_
  refine own_ru 58 [(.int (6 : Int32))] X0 hx hby e24_55_3 rfl rfl ?_
  have hq140 : Q24n3 Z  h0 n0 (some (.int (6 : Int32))) h0 _ := ⟨rfl, N0, rfl⟩
  exact own_retI X0 hx hlk hrt (hb hby d24_58) e0 hq140 (by decide) (by decide)
def Q23n3 (Z : State)  (h0 : Heap) (n0 : Nat) (v : Option Value) (h : Heap) (L : List Loc) : Prop := ∃ ob : Addr, ∃ kk : ClassId, v = some (.ref ob) ∧ Fr n0 L ∧ Keep h0 h [] ∧ Arv Z h ob kk .byte (6 : Int32) [(.int (0 : Int32)), (.int (0 : Int32)), (.int (0 : Int32)), (.int (0 : Int32)), (.int (0 : Int32)), (.int (0 : Int32))] (.int (0 : Int32)) ∧ (h0.size ≤ ob)
set_option maxRecDepth 65536 in
set_option maxHeartbeats 40000000 in
theorem rm23n3 (l : Launch) (Z : State) (a0 : Array Value) (hw : OW a0 Z) (ws : List Jvm.Cond)  (h0 : Heap) (n0 : Nat) (Z0 : n0 ≤ h0.size)  :
    own_Met l my23 jdk_52_method_2_code 1 (some (.array .byte)) ws (own_rm 1 1 6 12) #[(.int (3 : Int32))] Z h0 (Q23n3 Z  h0 n0) 1 6 := by
  refine own_body (plainFor_of_name pn_3) (fun m => by first | (simp [entryFrame, mkF, argsToLocals, Value.category]; done) | rfl) (Ls := #[.val (.int (3 : Int32))]) fun p e s m below meth c s₁ X0 hx hby hml hZ e0 hown hnm hlk hrt => ?_
  have N0 := Fr.nil n0
  refine own_ru 1 [(.int (3 : Int32))] X0 hx hby e23_0_1 rfl rfl ?_
  refine own_cS X0 hx hZ hown (wd104 hw) (wd105 hw) (by decide) (wd106 hw) (wd45 hw) (rm24n3 l Z a0 hw []  h0 n0 (by omega) ) e0  [(.int (3 : Int32))] [] 4 0 (hb hby d23_1) rfl (by rw [hml]; rfl) rfl rfl (lenOf pd_7 rfl) rfl (by decide) fun v141 T141 Lc141 X141 hQ141 => ?_
  obtain ⟨rfl, N141q, e141⟩ := hQ141
  have N141 := Fr.app N0 N141q
  refine own_nP (aty := .byte) X141 hx hZ (wd20 hw) e141 6 (hb hby d23_4) rfl rfl (by decide) (cap := 6) (by decide) (by decide) (by decide) (by decide) (ad := "[B") rfl fun T142 h142 k142 b142 g142 X142 e142 E142 A142 B142 => ?_
  have ll142 : @LT.lt Nat _ b142 (Array.size h142) := A142.lt
  have KK142 : Keep h0 h142 [] := (Keep.refl h0 []).ext E142
  have z142 := E142.1
  have V142 : Arv Z h142 b142 k142 .byte (6 : Int32) [(.int (0 : Int32)), (.int (0 : Int32)), (.int (0 : Int32)), (.int (0 : Int32)), (.int (0 : Int32)), (.int (0 : Int32))] (.int (0 : Int32)) := (Arv.new A142 (by decide)).pad (pad_rep [] (.int (0 : Int32)) 6)
  have hq143 : Q23n3 Z  h0 n0 (some (.ref b142)) h142 _ := ⟨b142, k142, rfl, N141, KK142, V142, (by first | omega | assumption)⟩
  exact own_retR X142 hx hlk (w := (.ref b142)) rfl hrt rfl (hb hby d23_6) e142 hq143 (by decide) (by decide)
def Q22n3 (Z : State) (G1 : Int32) (G2 : Value) (ca : Addr) (kc : ClassId) (x0 : Int32) (x1 : Int32) (x2 : Int32) (h0 : Heap) (n0 : Nat) (v : Option Value) (h : Heap) (L : List Loc) : Prop := ∃ ob : Addr, ∃ kk : ClassId, v = some (.ref ob) ∧ Fr n0 L ∧ Keep h0 h [] ∧ Arv Z h ob kk .byte (6 : Int32) [(.int (own_e0 x0)), (.int (own_e1 x0)), (.int (own_e0 x1)), (.int (own_e1 x1)), (.int (own_e0 x2)), (.int (own_e1 x2))] (.int (0 : Int32)) ∧ (h0.size ≤ ob)
set_option maxRecDepth 65536 in
set_option maxHeartbeats 40000000 in
theorem rm22n3 (l : Launch) (Z : State) (a0 : Array Value) (hw : OW a0 Z) (ws : List Jvm.Cond) (G1 : Int32) (G2 : Value) (ca : Addr) (kc : ClassId) (x0 : Int32) (x1 : Int32) (x2 : Int32) (h0 : Heap) (n0 : Nat) (Z0 : n0 ≤ h0.size) (OLD : Old Z n0 h0) (A : Amb Z G1 G2) (P0 : Arv Z h0 ca kc .char (3 : Int32) [(.int x0), (.int x1), (.int x2)] (.int (0 : Int32))) :
    own_Met l my22 jdk_52_method_14_code 5 (some (.array .byte)) ws (own_rm 2 1 6 24) #[(.ref ca), (.int (0 : Int32)), (.int (3 : Int32))] Z h0 (Q22n3 Z G1 G2 ca kc x0 x1 x2 h0 n0) 1 6 := by
  refine own_body (plainFor_of_name pn_3) (fun m => by first | (simp [entryFrame, mkF, argsToLocals, Value.category]; done) | rfl) (Ls := #[.val (.ref ca), .val (.int (0 : Int32)), .val (.int (3 : Int32)), .unset, .unset]) fun p e s m below meth c s₁ X0 hx hby hml hZ e0 hown hnm hlk hrt => ?_
  have N0 := Fr.nil n0
  have lt_P0 : @LT.lt Nat _ ca (Array.size h0) := P0.lt
  refine own_ru 1 [(.int (3 : Int32))] X0 hx hby e22_0_1 rfl rfl ?_
  refine own_cS X0 hx hZ hown (wd101 hw) (wd102 hw) (by decide) (wd103 hw) (wd45 hw) (rm23n3 l Z a0 hw []  h0 n0 (by omega) ) e0  [(.int (3 : Int32))] [] 4 0 (hb hby d22_1) rfl (by rw [hml]; rfl) rfl rfl (lenOf pd_8 rfl) rfl (by decide) fun v144 T144 Lc144 X144 hQ144 => ?_
  obtain ⟨ob_144, kk_144, rfl, N144q, K144, G144_0, U144_0⟩ := hQ144
  have N144 := Fr.app N0 N144q
  have z144 := K144.1
  have KK144 : Keep h0 T144.heap [] := (Keep.refl h0 []).trans K144 all0
  have lt144_0 : @LT.lt Nat _ ob_144 (Array.size T144.heap) := G144_0.lt
  refine own_rl 11 #[.val (.ref ca), .val (.int (0 : Int32)), .val (.int (3 : Int32)), .val (.ref ob_144), .val (.int (0 : Int32))] [(.int (3 : Int32)), (.int (0 : Int32))] X144 hx hby e22_4_5 rfl rfl ?_
  refine own_kN 14 X144 hx (hb hby d22_11) rfl (tlt (by decide : ((0 : Int32) < (3 : Int32)))).2.1 rfl ?_
  refine own_ru 19 [(.int (0 : Int32)), (.ref ca), (.int (0 : Int32)), (.ref ob_144)] X144 hx hby e22_14_4 rfl rfl ?_
  have f145 := (P0.keep K144 nin0)
  obtain ⟨cl146, Ar146, q146, S146, N146z, Hs146, G146⟩ := id f145
  have hin146 : ¬ ((0 : Int32) < 0 ∨ cl146.slots.size ≤ ((0 : Int32)).toNatClampNeg) := inb_of S146 ⟨by decide, by decide⟩
  have hat146 : cl146.slots[((0 : Int32)).toNatClampNeg]? = some (.int x0) := Hs146.at hin146 rfl
  refine own_st 20 [(.int x0), (.int (0 : Int32)), (.ref ob_144)] (X144.caload hx (j := (0 : Int32)) (v := (.int x0)) Ar146.1 (State.isArrayOf_alike hZ.alike Ar146.2.1) Ar146.2.2 hin146 hat146 (g := (mkF m 19 #[.val (.ref ca), .val (.int (0 : Int32)), .val (.int (3 : Int32)), .val (.ref ob_144), .val (.int (0 : Int32))] [(.int (0 : Int32)), (.ref ca), (.int (0 : Int32)), (.ref ob_144)])) rfl rfl (hb hby d22_19)) ?_
  have f147 := (OLD.keep K144 all0)
  refine own_cS X144 hx hZ hown (wd108 hw) (wd109 hw) (by decide) (wd110 hw) (wd45 hw) (rm25 l Z a0 hw [] G1 G2 ob_144 (0 : Int32) x0 kk_144 (6 : Int32) [(.int (0 : Int32)), (.int (0 : Int32)), (.int (0 : Int32)), (.int (0 : Int32)), (.int (0 : Int32)), (.int (0 : Int32))] T144.heap n0 (by omega) f147 A G144_0 (by omega) ⟨by decide, by decide⟩ ⟨by decide, by decide⟩ (Nat.le_of_ble_eq_true rfl) (Nat.le_of_ble_eq_true rfl)) rfl  [(.ref ob_144), (.int (0 : Int32)), (.int x0)] [] 23 0 (hb hby d22_20) rfl (by rw [hml]; rfl) rfl rfl (lenOf pd_9 rfl) rfl (by decide) fun v148 T148 Lc148 X148 hQ148 => ?_
  obtain ⟨rfl, N148q, K148, G148_0⟩ := hQ148
  have N148 := Fr.app N144 N148q
  have z148 := K148.1
  have KK148 : Keep h0 T148.heap [] := KK144.trans K148 (allS (Or.inr (by omega)) all0)
  have G148_0' : Arv Z T148.heap ob_144 kk_144 .byte (6 : Int32) [(.int (own_e0 x0)), (.int (own_e1 x0)), (.int (0 : Int32)), (.int (0 : Int32)), (.int (0 : Int32)), (.int (0 : Int32))] (.int (0 : Int32)) := G148_0
  have lt148_0 : @LT.lt Nat _ ob_144 (Array.size T148.heap) := G148_0.lt
  refine own_rl 29 #[.val (.ref ca), .val (.int (1 : Int32)), .val (.int (3 : Int32)), .val (.ref ob_144), .val (.int (1 : Int32))] [] X148 hx hby e22_23_2 rfl rfl ?_
  refine own_go 8 X148 hx (hb hby d22_29) (by decide) (by decide) ?_
  refine own_ru 11 [(.int (3 : Int32)), (.int (1 : Int32))] X148 hx hby e22_8_2 rfl rfl ?_
  refine own_kN 14 X148 hx (hb hby d22_11) rfl (tlt (by decide : ((1 : Int32) < (3 : Int32)))).2.1 rfl ?_
  refine own_ru 19 [(.int (1 : Int32)), (.ref ca), (.int (1 : Int32)), (.ref ob_144)] X148 hx hby e22_14_4 rfl rfl ?_
  have f149 := (f145.keep K148 (own_nS (by omega) nin0))
  obtain ⟨cl150, Ar150, q150, S150, N150z, Hs150, G150⟩ := id f149
  have hin150 : ¬ ((1 : Int32) < 0 ∨ cl150.slots.size ≤ ((1 : Int32)).toNatClampNeg) := inb_of S150 ⟨by decide, by decide⟩
  have hat150 : cl150.slots[((1 : Int32)).toNatClampNeg]? = some (.int x1) := Hs150.at hin150 rfl
  refine own_st 20 [(.int x1), (.int (1 : Int32)), (.ref ob_144)] (X148.caload hx (j := (1 : Int32)) (v := (.int x1)) Ar150.1 (State.isArrayOf_alike hZ.alike Ar150.2.1) Ar150.2.2 hin150 hat150 (g := (mkF m 19 #[.val (.ref ca), .val (.int (1 : Int32)), .val (.int (3 : Int32)), .val (.ref ob_144), .val (.int (1 : Int32))] [(.int (1 : Int32)), (.ref ca), (.int (1 : Int32)), (.ref ob_144)])) rfl rfl (hb hby d22_19)) ?_
  have f151 := (f147.keep K148 (allS (by omega) all0))
  refine own_cS X148 hx hZ hown (wd108 hw) (wd109 hw) (by decide) (wd110 hw) (wd45 hw) (rm25 l Z a0 hw [] G1 G2 ob_144 (1 : Int32) x1 kk_144 (6 : Int32) [(.int (own_e0 x0)), (.int (own_e1 x0)), (.int (0 : Int32)), (.int (0 : Int32)), (.int (0 : Int32)), (.int (0 : Int32))] T148.heap n0 (by omega) f151 A G148_0' (by omega) ⟨by decide, by decide⟩ ⟨by decide, by decide⟩ (Nat.le_of_ble_eq_true rfl) (Nat.le_of_ble_eq_true rfl)) rfl  [(.ref ob_144), (.int (1 : Int32)), (.int x1)] [] 23 0 (hb hby d22_20) rfl (by rw [hml]; rfl) rfl rfl (lenOf pd_9 rfl) rfl (by decide) fun v152 T152 Lc152 X152 hQ152 => ?_
  obtain ⟨rfl, N152q, K152, G152_0⟩ := hQ152
  have N152 := Fr.app N148 N152q
  have z152 := K152.1
  have KK152 : Keep h0 T152.heap [] := KK148.trans K152 (allS (Or.inr (by omega)) all0)
  have G152_0' : Arv Z T152.heap ob_144 kk_144 .byte (6 : Int32) [(.int (own_e0 x0)), (.int (own_e1 x0)), (.int (own_e0 x1)), (.int (own_e1 x1)), (.int (0 : Int32)), (.int (0 : Int32))] (.int (0 : Int32)) := G152_0
  have lt152_0 : @LT.lt Nat _ ob_144 (Array.size T152.heap) := G152_0.lt
  refine own_rl 29 #[.val (.ref ca), .val (.int (2 : Int32)), .val (.int (3 : Int32)), .val (.ref ob_144), .val (.int (2 : Int32))] [] X152 hx hby e22_23_2 rfl rfl ?_
  refine own_go 8 X152 hx (hb hby d22_29) (by decide) (by decide) ?_
  refine own_ru 11 [(.int (3 : Int32)), (.int (2 : Int32))] X152 hx hby e22_8_2 rfl rfl ?_
  refine own_kN 14 X152 hx (hb hby d22_11) rfl (tlt (by decide : ((2 : Int32) < (3 : Int32)))).2.1 rfl ?_
  refine own_ru 19 [(.int (2 : Int32)), (.ref ca), (.int (2 : Int32)), (.ref ob_144)] X152 hx hby e22_14_4 rfl rfl ?_
  have f153 := (f149.keep K152 (own_nS (by omega) nin0))
  obtain ⟨cl154, Ar154, q154, S154, N154z, Hs154, G154⟩ := id f153
  have hin154 : ¬ ((2 : Int32) < 0 ∨ cl154.slots.size ≤ ((2 : Int32)).toNatClampNeg) := inb_of S154 ⟨by decide, by decide⟩
  have hat154 : cl154.slots[((2 : Int32)).toNatClampNeg]? = some (.int x2) := Hs154.at hin154 rfl
  refine own_st 20 [(.int x2), (.int (2 : Int32)), (.ref ob_144)] (X152.caload hx (j := (2 : Int32)) (v := (.int x2)) Ar154.1 (State.isArrayOf_alike hZ.alike Ar154.2.1) Ar154.2.2 hin154 hat154 (g := (mkF m 19 #[.val (.ref ca), .val (.int (2 : Int32)), .val (.int (3 : Int32)), .val (.ref ob_144), .val (.int (2 : Int32))] [(.int (2 : Int32)), (.ref ca), (.int (2 : Int32)), (.ref ob_144)])) rfl rfl (hb hby d22_19)) ?_
  have f155 := (f151.keep K152 (allS (by omega) all0))
  refine own_cS X152 hx hZ hown (wd108 hw) (wd109 hw) (by decide) (wd110 hw) (wd45 hw) (rm25 l Z a0 hw [] G1 G2 ob_144 (2 : Int32) x2 kk_144 (6 : Int32) [(.int (own_e0 x0)), (.int (own_e1 x0)), (.int (own_e0 x1)), (.int (own_e1 x1)), (.int (0 : Int32)), (.int (0 : Int32))] T152.heap n0 (by omega) f155 A G152_0' (by omega) ⟨by decide, by decide⟩ ⟨by decide, by decide⟩ (Nat.le_of_ble_eq_true rfl) (Nat.le_of_ble_eq_true rfl)) rfl  [(.ref ob_144), (.int (2 : Int32)), (.int x2)] [] 23 0 (hb hby d22_20) rfl (by rw [hml]; rfl) rfl rfl (lenOf pd_9 rfl) rfl (by decide) fun v156 T156 Lc156 X156 hQ156 => ?_
  obtain ⟨rfl, N156q, K156, G156_0⟩ := hQ156
  have N156 := Fr.app N152 N156q
  have z156 := K156.1
  have KK156 : Keep h0 T156.heap [] := KK152.trans K156 (allS (Or.inr (by omega)) all0)
  have G156_0' : Arv Z T156.heap ob_144 kk_144 .byte (6 : Int32) [(.int (own_e0 x0)), (.int (own_e1 x0)), (.int (own_e0 x1)), (.int (own_e1 x1)), (.int (own_e0 x2)), (.int (own_e1 x2))] (.int (0 : Int32)) := G156_0
  have lt156_0 : @LT.lt Nat _ ob_144 (Array.size T156.heap) := G156_0.lt
  refine own_rl 29 #[.val (.ref ca), .val (.int (3 : Int32)), .val (.int (3 : Int32)), .val (.ref ob_144), .val (.int (3 : Int32))] [] X156 hx hby e22_23_2 rfl rfl ?_
  refine own_go 8 X156 hx (hb hby d22_29) (by decide) (by decide) ?_
  refine own_ru 11 [(.int (3 : Int32)), (.int (3 : Int32))] X156 hx hby e22_8_2 rfl rfl ?_
  refine own_kY 32 X156 hx (hb hby d22_11) rfl (flt (by decide : ¬ ((3 : Int32) < (3 : Int32)))).2.1 (by decide) (by decide) ?_
  refine own_ru 33 [(.ref ob_144)] X156 hx hby e22_32_1 rfl rfl ?_
  have hq157 : Q22n3 Z G1 G2 ca kc x0 x1 x2 h0 n0 (some (.ref ob_144)) T156.heap _ := ⟨ob_144, kk_144, rfl, N156, KK156, G156_0', (by first | omega | assumption)⟩
  exact own_retR X156 hx hlk (w := (.ref ob_144)) rfl hrt rfl (hb hby d22_33) rfl hq157 (by decide) (by decide)
theorem e9_3_1 : own_dec jdk_52_method_21_code 3 [(.iload 5, 2)] = true := by decide +kernel
theorem e9_5_1 : own_dec jdk_52_method_21_code 5 [(.iload 4, 2)] = true := by decide +kernel
def Q9n3 (Z : State) (ca : Addr) (bb : Addr) (kc : ClassId) (kb : ClassId) (x0 : Int32) (x1 : Int32) (x2 : Int32) (h0 : Heap) (n0 : Nat) (v : Option Value) (h : Heap) (L : List Loc) : Prop := ∃ r : Int32, ∃ vz : List Value, v = some (.int r) ∧ Fr n0 L ∧ Keep h0 h [bb] ∧ Arv Z h bb kb .byte (3 : Int32) vz (.int (0 : Int32)) ∧ ((r = (3 : Int32) ∧ vz = [(.int (own_b8 x0)), (.int (own_b8 x1)), (.int (own_b8 x2))] ∧ ¬ (255 : Int32) < x0 ∧ ¬ (255 : Int32) < x1 ∧ ¬ (255 : Int32) < x2) ∨ (r = (0 : Int32) ∧ (255 : Int32) < x0) ∨ (r = (1 : Int32) ∧ (255 : Int32) < x1) ∨ (r = (2 : Int32) ∧ (255 : Int32) < x2))
set_option maxRecDepth 65536 in
set_option maxHeartbeats 40000000 in
theorem rm9n3 (l : Launch) (Z : State) (a0 : Array Value) (hw : OW a0 Z) (ws : List Jvm.Cond) (ca : Addr) (bb : Addr) (kc : ClassId) (kb : ClassId) (x0 : Int32) (x1 : Int32) (x2 : Int32) (h0 : Heap) (n0 : Nat) (Z0 : n0 ≤ h0.size) (P0 : Arv Z h0 ca kc .char (3 : Int32) [(.int x0), (.int x1), (.int x2)] (.int (0 : Int32))) (P1 : Arv Z h0 bb kb .byte (3 : Int32) [(.int (0 : Int32)), (.int (0 : Int32)), (.int (0 : Int32))] (.int (0 : Int32))) (g_bb : n0 ≤ bb) (hne : @Ne Nat ca bb) :
    own_Met l my9 jdk_52_method_21_code 7 (some .int) ws (own_rm 0 0 0 0) #[(.ref ca), (.int (0 : Int32)), (.ref bb), (.int (0 : Int32)), (.int (3 : Int32))] Z h0 (Q9n3 Z ca bb kc kb x0 x1 x2 h0 n0) 0 0 := by
  refine own_body (plainFor_of_name pn_3) (fun m => by first | (simp [entryFrame, mkF, argsToLocals, Value.category]; done) | rfl) (Ls := #[.val (.ref ca), .val (.int (0 : Int32)), .val (.ref bb), .val (.int (0 : Int32)), .val (.int (3 : Int32)), .unset, .unset]) fun p e s m below meth c s₁ X0 hx hby hml hZ e0 hown hnm hlk hrt => ?_
  have N0 := Fr.nil n0
  have lt_P0 : @LT.lt Nat _ ca (Array.size h0) := P0.lt
  have lt_P1 : @LT.lt Nat _ bb (Array.size h0) := P1.lt
  refine own_rl 7 #[.val (.ref ca), .val (.int (0 : Int32)), .val (.ref bb), .val (.int (0 : Int32)), .val (.int (3 : Int32)), .val (.int (0 : Int32)), .unset] [(.int (3 : Int32)), (.int (0 : Int32))] X0 hx hby e9_0_4 rfl rfl ?_
  refine own_kN 10 X0 hx (hb hby d9_7) rfl (tlt (by decide : ((0 : Int32) < (3 : Int32)))).2.1 rfl ?_
  refine own_ru 12 [(.int (0 : Int32)), (.ref ca)] X0 hx hby e9_10_2 rfl rfl ?_
  obtain ⟨cl158, Ar158, q158, S158, N158z, Hs158, G158⟩ := id P0
  have hin158 : ¬ ((0 : Int32) < 0 ∨ cl158.slots.size ≤ ((0 : Int32)).toNatClampNeg) := inb_of S158 ⟨by decide, by decide⟩
  have hat158 : cl158.slots[((0 : Int32)).toNatClampNeg]? = some (.int x0) := Hs158.at hin158 rfl
  refine own_st 13 [(.int x0)] (X0.caload hx (j := (0 : Int32)) (v := (.int x0)) (by rw [e0]; exact Ar158.1) (State.isArrayOf_alike hZ.alike Ar158.2.1) Ar158.2.2 hin158 hat158 (g := (mkF m 12 #[.val (.ref ca), .val (.int (0 : Int32)), .val (.ref bb), .val (.int (0 : Int32)), .val (.int (3 : Int32)), .val (.int (0 : Int32)), .unset] [(.int (0 : Int32)), (.ref ca)])) rfl rfl (hb hby d9_12)) ?_
  refine own_rl 20 #[.val (.ref ca), .val (.int (0 : Int32)), .val (.ref bb), .val (.int (0 : Int32)), .val (.int (3 : Int32)), .val (.int (0 : Int32)), .val (.int x0)] [(.int (255 : Int32)), (.int x0)] X0 hx hby e9_13_3 rfl rfl ?_
  by_cases hc20 : (255 : Int32) < x0
  · refine own_kN 23 X0 hx (hb hby d9_20) rfl (tlt hc20).2.2.2 rfl ?_
    refine own_ru 25 [(.int (0 : Int32))] X0 hx hby e9_23_1 rfl rfl ?_
    have hq159 : Q9n3 Z ca bb kc kb x0 x1 x2 h0 n0 (some (.int (0 : Int32))) h0 _ := ⟨(0 : Int32), [(.int (0 : Int32)), (.int (0 : Int32)), (.int (0 : Int32))], rfl, N0, (Keep.refl h0 [bb]), P1, (Or.inr (Or.inl ⟨rfl, hc20⟩))⟩
    exact own_retI X0 hx hlk hrt (hb hby d9_25) e0 hq159 (by decide) (by decide)
  · refine own_kY 26 X0 hx (hb hby d9_20) rfl (flt hc20).2.2.2 (by decide) (by decide) ?_
    refine own_ru 31 [(.int (x0.toInt8.toInt32)), (.int (0 : Int32)), (.ref bb)] X0 hx hby e9_26_4 rfl rfl ?_
    obtain ⟨cl160, Ar160, q160, S160, N160z, Hs160, G160⟩ := id P1
    have hin160 : ¬ ((0 : Int32) < 0 ∨ cl160.slots.size ≤ ((0 : Int32)).toNatClampNeg) := inb_of S160 ⟨by decide, by decide⟩
    obtain ⟨T161, h161, X161, e161, W161, st161⟩ := stB X0 hx hZ e0 Ar160 (j := (0 : Int32)) hin160 (g := (mkF m 31 #[.val (.ref ca), .val (.int (0 : Int32)), .val (.ref bb), .val (.int (0 : Int32)), .val (.int (3 : Int32)), .val (.int (0 : Int32)), .val (.int x0)] [(.int (x0.toInt8.toInt32)), (.int (0 : Int32)), (.ref bb)])) rfl rfl (hb hby d9_31)
    have V161 : Arv Z h161 bb kb .byte (3 : Int32) [(.int (nar .byte (x0.toInt8.toInt32))), (.int (0 : Int32)), (.int (0 : Int32))] (.int (0 : Int32)) := Arv.set Ar160 q160 S160 N160z Hs160 G160 (fits_nar_byte _) W161 0 rfl (Nat.le_of_ble_eq_true rfl)
    have z161 := W161.size
    have KK161 : Keep h0 h161 [bb] := (Keep.refl h0 [bb]).wr W161 (Or.inl (by simp))
    have N161 := Fr.snoc X161 N0 (by omega)
    refine own_sT 32 [] st161 ?_
    refine own_rl 41 #[.val (.ref ca), .val (.int (1 : Int32)), .val (.ref bb), .val (.int (1 : Int32)), .val (.int (3 : Int32)), .val (.int (1 : Int32)), .val (.int x0)] [] X161 hx hby e9_32_3 rfl rfl ?_
    refine own_go 3 X161 hx (hb hby d9_41) (by decide) (by decide) ?_
    refine own_ru 7 [(.int (3 : Int32)), (.int (1 : Int32))] X161 hx hby e9_3_2 rfl rfl ?_
    refine own_kN 10 X161 hx (hb hby d9_7) rfl (tlt (by decide : ((1 : Int32) < (3 : Int32)))).2.1 rfl ?_
    refine own_ru 12 [(.int (1 : Int32)), (.ref ca)] X161 hx hby e9_10_2 rfl rfl ?_
    have f162 := (P0.other W161 (own_ne (by omega)))
    obtain ⟨cl163, Ar163, q163, S163, N163z, Hs163, G163⟩ := id f162
    have hin163 : ¬ ((1 : Int32) < 0 ∨ cl163.slots.size ≤ ((1 : Int32)).toNatClampNeg) := inb_of S163 ⟨by decide, by decide⟩
    have hat163 : cl163.slots[((1 : Int32)).toNatClampNeg]? = some (.int x1) := Hs163.at hin163 rfl
    refine own_st 13 [(.int x1)] (X161.caload hx (j := (1 : Int32)) (v := (.int x1)) (by rw [e161]; exact Ar163.1) (State.isArrayOf_alike hZ.alike Ar163.2.1) Ar163.2.2 hin163 hat163 (g := (mkF m 12 #[.val (.ref ca), .val (.int (1 : Int32)), .val (.ref bb), .val (.int (1 : Int32)), .val (.int (3 : Int32)), .val (.int (1 : Int32)), .val (.int x0)] [(.int (1 : Int32)), (.ref ca)])) rfl rfl (hb hby d9_12)) ?_
    refine own_rl 20 #[.val (.ref ca), .val (.int (1 : Int32)), .val (.ref bb), .val (.int (1 : Int32)), .val (.int (3 : Int32)), .val (.int (1 : Int32)), .val (.int x1)] [(.int (255 : Int32)), (.int x1)] X161 hx hby e9_13_3 rfl rfl ?_
    by_cases hc20b : (255 : Int32) < x1
    · refine own_kN 23 X161 hx (hb hby d9_20) rfl (tlt hc20b).2.2.2 rfl ?_
      refine own_ru 25 [(.int (1 : Int32))] X161 hx hby e9_23_1 rfl rfl ?_
      have hq164 : Q9n3 Z ca bb kc kb x0 x1 x2 h0 n0 (some (.int (1 : Int32))) h161 _ := ⟨(1 : Int32), [(.int (nar .byte (x0.toInt8.toInt32))), (.int (0 : Int32)), (.int (0 : Int32))], rfl, N161, KK161, V161, (Or.inr (Or.inr (Or.inl ⟨rfl, hc20b⟩)))⟩
      exact own_retI X161 hx hlk hrt (hb hby d9_25) e161 hq164 (by decide) (by decide)
    · refine own_kY 26 X161 hx (hb hby d9_20) rfl (flt hc20b).2.2.2 (by decide) (by decide) ?_
      refine own_ru 31 [(.int (x1.toInt8.toInt32)), (.int (1 : Int32)), (.ref bb)] X161 hx hby e9_26_4 rfl rfl ?_
      obtain ⟨cl165, Ar165, q165, S165, N165z, Hs165, G165⟩ := id V161
      have hin165 : ¬ ((1 : Int32) < 0 ∨ cl165.slots.size ≤ ((1 : Int32)).toNatClampNeg) := inb_of S165 ⟨by decide, by decide⟩
      obtain ⟨T166, h166, X166, e166, W166, st166⟩ := stB X161 hx hZ e161 Ar165 (j := (1 : Int32)) hin165 (g := (mkF m 31 #[.val (.ref ca), .val (.int (1 : Int32)), .val (.ref bb), .val (.int (1 : Int32)), .val (.int (3 : Int32)), .val (.int (1 : Int32)), .val (.int x1)] [(.int (x1.toInt8.toInt32)), (.int (1 : Int32)), (.ref bb)])) rfl rfl (hb hby d9_31)
      have V166 : Arv Z h166 bb kb .byte (3 : Int32) [(.int (nar .byte (x0.toInt8.toInt32))), (.int (nar .byte (x1.toInt8.toInt32))), (.int (0 : Int32))] (.int (0 : Int32)) := Arv.set Ar165 q165 S165 N165z Hs165 G165 (fits_nar_byte _) W166 1 rfl (Nat.le_of_ble_eq_true rfl)
      have z166 := W166.size
      have KK166 : Keep h0 h166 [bb] := KK161.wr W166 (Or.inl (by simp))
      have N166 := Fr.snoc X166 N161 (by omega)
      refine own_sT 32 [] st166 ?_
      refine own_rl 41 #[.val (.ref ca), .val (.int (2 : Int32)), .val (.ref bb), .val (.int (2 : Int32)), .val (.int (3 : Int32)), .val (.int (2 : Int32)), .val (.int x1)] [] X166 hx hby e9_32_3 rfl rfl ?_
      refine own_go 3 X166 hx (hb hby d9_41) (by decide) (by decide) ?_
      refine own_ru 7 [(.int (3 : Int32)), (.int (2 : Int32))] X166 hx hby e9_3_2 rfl rfl ?_
      refine own_kN 10 X166 hx (hb hby d9_7) rfl (tlt (by decide : ((2 : Int32) < (3 : Int32)))).2.1 rfl ?_
      refine own_ru 12 [(.int (2 : Int32)), (.ref ca)] X166 hx hby e9_10_2 rfl rfl ?_
      have f167 := (f162.other W166 (own_ne (by omega)))
      obtain ⟨cl168, Ar168, q168, S168, N168z, Hs168, G168⟩ := id f167
      have hin168 : ¬ ((2 : Int32) < 0 ∨ cl168.slots.size ≤ ((2 : Int32)).toNatClampNeg) := inb_of S168 ⟨by decide, by decide⟩
      have hat168 : cl168.slots[((2 : Int32)).toNatClampNeg]? = some (.int x2) := Hs168.at hin168 rfl
      refine own_st 13 [(.int x2)] (X166.caload hx (j := (2 : Int32)) (v := (.int x2)) (by rw [e166]; exact Ar168.1) (State.isArrayOf_alike hZ.alike Ar168.2.1) Ar168.2.2 hin168 hat168 (g := (mkF m 12 #[.val (.ref ca), .val (.int (2 : Int32)), .val (.ref bb), .val (.int (2 : Int32)), .val (.int (3 : Int32)), .val (.int (2 : Int32)), .val (.int x1)] [(.int (2 : Int32)), (.ref ca)])) rfl rfl (hb hby d9_12)) ?_
      refine own_rl 20 #[.val (.ref ca), .val (.int (2 : Int32)), .val (.ref bb), .val (.int (2 : Int32)), .val (.int (3 : Int32)), .val (.int (2 : Int32)), .val (.int x2)] [(.int (255 : Int32)), (.int x2)] X166 hx hby e9_13_3 rfl rfl ?_
      by_cases hc20bb : (255 : Int32) < x2
      · refine own_kN 23 X166 hx (hb hby d9_20) rfl (tlt hc20bb).2.2.2 rfl ?_
        refine own_ru 25 [(.int (2 : Int32))] X166 hx hby e9_23_1 rfl rfl ?_
        have hq169 : Q9n3 Z ca bb kc kb x0 x1 x2 h0 n0 (some (.int (2 : Int32))) h166 _ := ⟨(2 : Int32), [(.int (nar .byte (x0.toInt8.toInt32))), (.int (nar .byte (x1.toInt8.toInt32))), (.int (0 : Int32))], rfl, N166, KK166, V166, (Or.inr (Or.inr (Or.inr (⟨rfl, hc20bb⟩))))⟩
        exact own_retI X166 hx hlk hrt (hb hby d9_25) e166 hq169 (by decide) (by decide)
      · refine own_kY 26 X166 hx (hb hby d9_20) rfl (flt hc20bb).2.2.2 (by decide) (by decide) ?_
        refine own_ru 31 [(.int (x2.toInt8.toInt32)), (.int (2 : Int32)), (.ref bb)] X166 hx hby e9_26_4 rfl rfl ?_
        obtain ⟨cl170, Ar170, q170, S170, N170z, Hs170, G170⟩ := id V166
        have hin170 : ¬ ((2 : Int32) < 0 ∨ cl170.slots.size ≤ ((2 : Int32)).toNatClampNeg) := inb_of S170 ⟨by decide, by decide⟩
        obtain ⟨T171, h171, X171, e171, W171, st171⟩ := stB X166 hx hZ e166 Ar170 (j := (2 : Int32)) hin170 (g := (mkF m 31 #[.val (.ref ca), .val (.int (2 : Int32)), .val (.ref bb), .val (.int (2 : Int32)), .val (.int (3 : Int32)), .val (.int (2 : Int32)), .val (.int x2)] [(.int (x2.toInt8.toInt32)), (.int (2 : Int32)), (.ref bb)])) rfl rfl (hb hby d9_31)
        have V171 : Arv Z h171 bb kb .byte (3 : Int32) [(.int (nar .byte (x0.toInt8.toInt32))), (.int (nar .byte (x1.toInt8.toInt32))), (.int (nar .byte (x2.toInt8.toInt32)))] (.int (0 : Int32)) := Arv.set Ar170 q170 S170 N170z Hs170 G170 (fits_nar_byte _) W171 2 rfl (Nat.le_of_ble_eq_true rfl)
        have z171 := W171.size
        have KK171 : Keep h0 h171 [bb] := KK166.wr W171 (Or.inl (by simp))
        have N171 := Fr.snoc X171 N166 (by omega)
        refine own_sT 32 [] st171 ?_
        refine own_rl 41 #[.val (.ref ca), .val (.int (3 : Int32)), .val (.ref bb), .val (.int (3 : Int32)), .val (.int (3 : Int32)), .val (.int (3 : Int32)), .val (.int x2)] [] X171 hx hby e9_32_3 rfl rfl ?_
        refine own_go 3 X171 hx (hb hby d9_41) (by decide) (by decide) ?_
        refine own_ru 5 [(.int (3 : Int32))] X171 hx hby e9_3_1 rfl rfl ?_
        as_aux_lemma =>
          refine own_ru 7 [(.int (3 : Int32)), (.int (3 : Int32))] X171 hx hby e9_5_1 rfl rfl ?_
          refine own_kY 44 X171 hx (hb hby d9_7) rfl (flt (by decide : ¬ ((3 : Int32) < (3 : Int32)))).2.1 (by decide) (by decide) ?_
          refine own_ru 46 [(.int (3 : Int32))] X171 hx hby e9_44_1 rfl rfl ?_
          have hq172 : Q9n3 Z ca bb kc kb x0 x1 x2 h0 n0 (some (.int (3 : Int32))) h171 _ := ⟨(3 : Int32), [(.int (nar .byte (x0.toInt8.toInt32))), (.int (nar .byte (x1.toInt8.toInt32))), (.int (nar .byte (x2.toInt8.toInt32)))], rfl, N171, KK171, V171, (Or.inl ⟨rfl, rfl, hc20, hc20b, hc20bb⟩)⟩
          exact own_retI X171 hx hlk hrt (hb hby d9_46) e171 hq172 (by decide) (by decide)
def own_By3 (Z : State) (h : Heap) (ob : Addr) (x0 : Int32) (x1 : Int32) (x2 : Int32) : Prop := (∃ kk : ClassId, Arv Z h ob kk .byte (3 : Int32) [(.int (own_b8 x0)), (.int (own_b8 x1)), (.int (own_b8 x2))] (.int (0 : Int32)) ∧ ¬ (255 : Int32) < x0 ∧ ¬ (255 : Int32) < x1 ∧ ¬ (255 : Int32) < x2) ∨ (∃ kk : ClassId, Arv Z h ob kk .byte (6 : Int32) [(.int (own_e0 x0)), (.int (own_e1 x0)), (.int (own_e0 x1)), (.int (own_e1 x1)), (.int (own_e0 x2)), (.int (own_e1 x2))] (.int (0 : Int32)))
def Q8n3 (Z : State) (G1 : Int32) (G2 : Value) (ca : Addr) (kc : ClassId) (x0 : Int32) (x1 : Int32) (x2 : Int32) (h0 : Heap) (n0 : Nat) (v : Option Value) (h : Heap) (L : List Loc) : Prop := ∃ ob : Addr, v = some (.ref ob) ∧ Fr n0 L ∧ Keep h0 h [] ∧ own_By3 Z h ob x0 x1 x2 ∧ (h0.size ≤ ob)
set_option maxRecDepth 65536 in
set_option maxHeartbeats 40000000 in
theorem rm8n3 (l : Launch) (Z : State) (a0 : Array Value) (hw : OW a0 Z) (ws : List Jvm.Cond) (G1 : Int32) (G2 : Value) (ca : Addr) (kc : ClassId) (x0 : Int32) (x1 : Int32) (x2 : Int32) (h0 : Heap) (n0 : Nat) (Z0 : n0 ≤ h0.size) (OLD : Old Z n0 h0) (A : Amb Z G1 G2) (P0 : Arv Z h0 ca kc .char (3 : Int32) [(.int x0), (.int x1), (.int x2)] (.int (0 : Int32))) (hx0 : own_ch x0) (hx1 : own_ch x1) (hx2 : own_ch x2) :
    own_Met l my8 jdk_52_method_16_code 6 (some (.array .byte)) ws (own_rm 3 2 9 40) #[(.ref ca), (.int (0 : Int32)), (.int (3 : Int32))] Z h0 (Q8n3 Z G1 G2 ca kc x0 x1 x2 h0 n0) 2 9 := by
  refine own_body (plainFor_of_name pn_3) (fun m => by first | (simp [entryFrame, mkF, argsToLocals, Value.category]; done) | rfl) (Ls := #[.val (.ref ca), .val (.int (0 : Int32)), .val (.int (3 : Int32)), .unset, .unset, .unset]) fun p e s m below meth c s₁ X0 hx hby hml hZ e0 hown hnm hlk hrt => ?_
  have N0 := Fr.nil n0
  have lt_P0 : @LT.lt Nat _ ca (Array.size h0) := P0.lt
  refine own_ru 1 [(.int (3 : Int32))] X0 hx hby e8_0_1 rfl rfl ?_
  refine own_nP (aty := .byte) X0 hx hZ (wd20 hw) e0 3 (hb hby d8_1) rfl rfl (by decide) (cap := 3) (by decide) (by decide) (by decide) (by decide) (ad := "[B") rfl fun T173 h173 k173 b173 g173 X173 e173 E173 A173 B173 => ?_
  have ll173 : @LT.lt Nat _ b173 (Array.size h173) := A173.lt
  have KK173 : Keep h0 h173 [] := (Keep.refl h0 []).ext E173
  have z173 := E173.1
  have V173 : Arv Z h173 b173 k173 .byte (3 : Int32) [(.int (0 : Int32)), (.int (0 : Int32)), (.int (0 : Int32))] (.int (0 : Int32)) := (Arv.new A173 (by decide)).pad (pad_rep [] (.int (0 : Int32)) 3)
  refine own_rl 9 #[.val (.ref ca), .val (.int (0 : Int32)), .val (.int (3 : Int32)), .val (.ref b173), .unset, .unset] [(.int (3 : Int32)), (.int (0 : Int32)), (.ref b173), (.int (0 : Int32)), (.ref ca)] X173 hx hby e8_3_6 rfl rfl ?_
  have f174 := (P0.ext E173)
  refine own_cS X173 hx hZ hown (wd47 hw) (wd48 hw) (by decide) (wd49 hw) (wd45 hw) (rm9n3 l Z a0 hw [] ca b173 kc k173 x0 x1 x2 h173 n0 (by omega) f174 V173 (by omega) (by first | assumption | decide | omega)) e173  [(.ref ca), (.int (0 : Int32)), (.ref b173), (.int (0 : Int32)), (.int (3 : Int32))] [] 12 0 (hb hby d8_9) rfl (by rw [hml]; rfl) rfl rfl (lenOf pd_10 rfl) rfl (by decide) fun v175 T175 Lc175 X175 hQ175 => ?_
  obtain ⟨r_175, vz_175, rfl, N175q, K175, G175_0, U175_0⟩ := hQ175
  have N175 := Fr.app N0 N175q
  have z175 := K175.1
  have KK175 : Keep h0 T175.heap [] := KK173.trans K175 (allS (Or.inr (by omega)) all0)
  have lt175_0 : @LT.lt Nat _ b173 (Array.size T175.heap) := G175_0.lt
  rcases U175_0 with ⟨hr, hvz, hb0, hb1, hb2⟩ | ⟨hr, hgt⟩ | ⟨hr, hgt⟩ | ⟨hr, hgt⟩
  · subst hr hvz
    refine own_rl 17 #[.val (.ref ca), .val (.int (0 : Int32)), .val (.int (3 : Int32)), .val (.ref b173), .val (.int (3 : Int32)), .unset] [(.int (3 : Int32)), (.int (3 : Int32))] X175 hx hby e8_12_3 rfl rfl ?_
    refine own_kY 57 X175 hx (hb hby d8_17) rfl (teq (by decide : ((3 : Int32) = (3 : Int32)))).1 (by decide) (by decide) ?_
    refine own_ru 58 [(.ref b173)] X175 hx hby e8_57_1 rfl rfl ?_
    have hq176 : Q8n3 Z G1 G2 ca kc x0 x1 x2 h0 n0 (some (.ref b173)) T175.heap _ := ⟨b173, rfl, N175, KK175, Or.inl ⟨k173, G175_0, hb0, hb1, hb2⟩, (by first | omega | assumption)⟩
    exact own_retR X175 hx hlk (w := (.ref b173)) rfl hrt rfl (hb hby d8_58) rfl hq176 (by decide) (by decide)
  · subst hr
    refine own_rl 17 #[.val (.ref ca), .val (.int (0 : Int32)), .val (.int (3 : Int32)), .val (.ref b173), .val (.int (0 : Int32)), .unset] [(.int (3 : Int32)), (.int (0 : Int32))] X175 hx hby e8_12_3 rfl rfl ?_
    refine own_kN 20 X175 hx (hb hby d8_17) rfl (feq (by decide : ¬ ((0 : Int32) = (3 : Int32)))).1 rfl ?_
    refine own_ru 23 [(.int (3 : Int32)), (.int (0 : Int32)), (.ref ca)] X175 hx hby e8_20_3 rfl rfl ?_
    have f177 := ((OLD.ext E173).keep K175 (allS (by omega) all0))
    have f178 := (f174.keep K175 (own_nS (by omega) nin0))
    refine own_cS X175 hx hZ hown (wd98 hw) (wd99 hw) (by decide) (wd100 hw) (wd45 hw) (rm22n3 l Z a0 hw [] G1 G2 ca kc x0 x1 x2 T175.heap n0 (by omega) f177 A f178) rfl  [(.ref ca), (.int (0 : Int32)), (.int (3 : Int32))] [] 26 0 (hb hby d8_23) rfl (by rw [hml]; rfl) rfl rfl (lenOf pd_11 rfl) rfl (by decide) fun v179 T179 Lc179 X179 hQ179 => ?_
    obtain ⟨ob_179, kk_179, rfl, N179q, K179, G179_0, U179_0⟩ := hQ179
    have N179 := Fr.app N175 N179q
    have z179 := K179.1
    have KK179 : Keep h0 T179.heap [] := KK175.trans K179 all0
    have lt179_0 : @LT.lt Nat _ ob_179 (Array.size T179.heap) := G179_0.lt
    refine own_rl 32 #[.val (.ref ca), .val (.int (0 : Int32)), .val (.int (3 : Int32)), .val (.ref b173), .val (.int (0 : Int32)), .val (.ref ob_179)] [(.int (0 : Int32)), (.ref ob_179)] X179 hx hby e8_26_3 rfl rfl ?_
    have f180 := (f177.keep K179 all0)
    refine own_cS X179 hx hZ hown (wd114 hw) (wd115 hw) (by decide) (wd116 hw) (wd45 hw) (rm26 l Z a0 hw [] G1 G2 ob_179 (0 : Int32) kk_179 (6 : Int32) [(.int (own_e0 x0)), (.int (own_e1 x0)), (.int (own_e0 x1)), (.int (own_e1 x1)), (.int (own_e0 x2)), (.int (own_e1 x2))] (own_e0 x0) (own_e1 x0) T179.heap n0 (by omega) f180 A G179_0 ⟨by decide, by decide⟩ ⟨by decide, by decide⟩ rfl rfl) rfl  [(.ref ob_179), (.int (0 : Int32))] [] 35 0 (hb hby d8_32) rfl (by rw [hml]; rfl) rfl rfl (lenOf pd_5 rfl) rfl (by decide) fun v181 T181 Lc181 X181 hQ181 => ?_
    obtain ⟨rfl, N181q, e181⟩ := hQ181
    have N181 := Fr.app N179 N181q
    refine own_ru 38 [(.int (255 : Int32)), (.int (own_u (own_e0 x0) (own_e1 x0)))] X181 hx hby e8_35_1 rfl rfl ?_
    refine own_kY 54 X181 hx (hb hby d8_38) rfl (tlt (by rw [own_uOk hx0]; exact hgt)).2.2.1 (by decide) (by decide) ?_
    refine own_ru 56 [(.ref ob_179)] X181 hx hby e8_54_1 rfl rfl ?_
    have hq182 : Q8n3 Z G1 G2 ca kc x0 x1 x2 h0 n0 (some (.ref ob_179)) T179.heap _ := ⟨ob_179, rfl, N181, KK179, Or.inr ⟨kk_179, G179_0⟩, (by first | omega | assumption)⟩
    exact own_retR X181 hx hlk (w := (.ref ob_179)) rfl hrt rfl (hb hby d8_56) e181 hq182 (by decide) (by decide)
  · subst hr
    refine own_rl 17 #[.val (.ref ca), .val (.int (0 : Int32)), .val (.int (3 : Int32)), .val (.ref b173), .val (.int (1 : Int32)), .unset] [(.int (3 : Int32)), (.int (1 : Int32))] X175 hx hby e8_12_3 rfl rfl ?_
    refine own_kN 20 X175 hx (hb hby d8_17) rfl (feq (by decide : ¬ ((1 : Int32) = (3 : Int32)))).1 rfl ?_
    refine own_ru 23 [(.int (3 : Int32)), (.int (0 : Int32)), (.ref ca)] X175 hx hby e8_20_3 rfl rfl ?_
    have f183 := ((OLD.ext E173).keep K175 (allS (by omega) all0))
    have f184 := (f174.keep K175 (own_nS (by omega) nin0))
    refine own_cS X175 hx hZ hown (wd98 hw) (wd99 hw) (by decide) (wd100 hw) (wd45 hw) (rm22n3 l Z a0 hw [] G1 G2 ca kc x0 x1 x2 T175.heap n0 (by omega) f183 A f184) rfl  [(.ref ca), (.int (0 : Int32)), (.int (3 : Int32))] [] 26 0 (hb hby d8_23) rfl (by rw [hml]; rfl) rfl rfl (lenOf pd_11 rfl) rfl (by decide) fun v185 T185 Lc185 X185 hQ185 => ?_
    obtain ⟨ob_185, kk_185, rfl, N185q, K185, G185_0, U185_0⟩ := hQ185
    have N185 := Fr.app N175 N185q
    have z185 := K185.1
    have KK185 : Keep h0 T185.heap [] := KK175.trans K185 all0
    have lt185_0 : @LT.lt Nat _ ob_185 (Array.size T185.heap) := G185_0.lt
    refine own_rl 32 #[.val (.ref ca), .val (.int (0 : Int32)), .val (.int (3 : Int32)), .val (.ref b173), .val (.int (1 : Int32)), .val (.ref ob_185)] [(.int (1 : Int32)), (.ref ob_185)] X185 hx hby e8_26_3 rfl rfl ?_
    have f186 := (f183.keep K185 all0)
    refine own_cS X185 hx hZ hown (wd114 hw) (wd115 hw) (by decide) (wd116 hw) (wd45 hw) (rm26 l Z a0 hw [] G1 G2 ob_185 (1 : Int32) kk_185 (6 : Int32) [(.int (own_e0 x0)), (.int (own_e1 x0)), (.int (own_e0 x1)), (.int (own_e1 x1)), (.int (own_e0 x2)), (.int (own_e1 x2))] (own_e0 x1) (own_e1 x1) T185.heap n0 (by omega) f186 A G185_0 ⟨by decide, by decide⟩ ⟨by decide, by decide⟩ rfl rfl) rfl  [(.ref ob_185), (.int (1 : Int32))] [] 35 0 (hb hby d8_32) rfl (by rw [hml]; rfl) rfl rfl (lenOf pd_5 rfl) rfl (by decide) fun v187 T187 Lc187 X187 hQ187 => ?_
    obtain ⟨rfl, N187q, e187⟩ := hQ187
    have N187 := Fr.app N185 N187q
    refine own_ru 38 [(.int (255 : Int32)), (.int (own_u (own_e0 x1) (own_e1 x1)))] X187 hx hby e8_35_1 rfl rfl ?_
    refine own_kY 54 X187 hx (hb hby d8_38) rfl (tlt (by rw [own_uOk hx1]; exact hgt)).2.2.1 (by decide) (by decide) ?_
    refine own_ru 56 [(.ref ob_185)] X187 hx hby e8_54_1 rfl rfl ?_
    have hq188 : Q8n3 Z G1 G2 ca kc x0 x1 x2 h0 n0 (some (.ref ob_185)) T185.heap _ := ⟨ob_185, rfl, N187, KK185, Or.inr ⟨kk_185, G185_0⟩, (by first | omega | assumption)⟩
    exact own_retR X187 hx hlk (w := (.ref ob_185)) rfl hrt rfl (hb hby d8_56) e187 hq188 (by decide) (by decide)
  · subst hr
    refine own_rl 17 #[.val (.ref ca), .val (.int (0 : Int32)), .val (.int (3 : Int32)), .val (.ref b173), .val (.int (2 : Int32)), .unset] [(.int (3 : Int32)), (.int (2 : Int32))] X175 hx hby e8_12_3 rfl rfl ?_
    refine own_kN 20 X175 hx (hb hby d8_17) rfl (feq (by decide : ¬ ((2 : Int32) = (3 : Int32)))).1 rfl ?_
    refine own_ru 23 [(.int (3 : Int32)), (.int (0 : Int32)), (.ref ca)] X175 hx hby e8_20_3 rfl rfl ?_
    have f189 := ((OLD.ext E173).keep K175 (allS (by omega) all0))
    have f190 := (f174.keep K175 (own_nS (by omega) nin0))
    refine own_cS X175 hx hZ hown (wd98 hw) (wd99 hw) (by decide) (wd100 hw) (wd45 hw) (rm22n3 l Z a0 hw [] G1 G2 ca kc x0 x1 x2 T175.heap n0 (by omega) f189 A f190) rfl  [(.ref ca), (.int (0 : Int32)), (.int (3 : Int32))] [] 26 0 (hb hby d8_23) rfl (by rw [hml]; rfl) rfl rfl (lenOf pd_11 rfl) rfl (by decide) fun v191 T191 Lc191 X191 hQ191 => ?_
    obtain ⟨ob_191, kk_191, rfl, N191q, K191, G191_0, U191_0⟩ := hQ191
    have N191 := Fr.app N175 N191q
    have z191 := K191.1
    have KK191 : Keep h0 T191.heap [] := KK175.trans K191 all0
    have lt191_0 : @LT.lt Nat _ ob_191 (Array.size T191.heap) := G191_0.lt
    refine own_rl 32 #[.val (.ref ca), .val (.int (0 : Int32)), .val (.int (3 : Int32)), .val (.ref b173), .val (.int (2 : Int32)), .val (.ref ob_191)] [(.int (2 : Int32)), (.ref ob_191)] X191 hx hby e8_26_3 rfl rfl ?_
    have f192 := (f189.keep K191 all0)
    refine own_cS X191 hx hZ hown (wd114 hw) (wd115 hw) (by decide) (wd116 hw) (wd45 hw) (rm26 l Z a0 hw [] G1 G2 ob_191 (2 : Int32) kk_191 (6 : Int32) [(.int (own_e0 x0)), (.int (own_e1 x0)), (.int (own_e0 x1)), (.int (own_e1 x1)), (.int (own_e0 x2)), (.int (own_e1 x2))] (own_e0 x2) (own_e1 x2) T191.heap n0 (by omega) f192 A G191_0 ⟨by decide, by decide⟩ ⟨by decide, by decide⟩ rfl rfl) rfl  [(.ref ob_191), (.int (2 : Int32))] [] 35 0 (hb hby d8_32) rfl (by rw [hml]; rfl) rfl rfl (lenOf pd_5 rfl) rfl (by decide) fun v193 T193 Lc193 X193 hQ193 => ?_
    obtain ⟨rfl, N193q, e193⟩ := hQ193
    have N193 := Fr.app N191 N193q
    refine own_ru 38 [(.int (255 : Int32)), (.int (own_u (own_e0 x2) (own_e1 x2)))] X193 hx hby e8_35_1 rfl rfl ?_
    refine own_kY 54 X193 hx (hb hby d8_38) rfl (tlt (by rw [own_uOk hx2]; exact hgt)).2.2.1 (by decide) (by decide) ?_
    refine own_ru 56 [(.ref ob_191)] X193 hx hby e8_54_1 rfl rfl ?_
    have hq194 : Q8n3 Z G1 G2 ca kc x0 x1 x2 h0 n0 (some (.ref ob_191)) T191.heap _ := ⟨ob_191, rfl, N193, KK191, Or.inr ⟨kk_191, G191_0⟩, (by first | omega | assumption)⟩
    exact own_retR X193 hx hlk (w := (.ref ob_191)) rfl hrt rfl (hb hby d8_56) e193 hq194 (by decide) (by decide)
def own_Str1 (Z : State) (h : Heap) (so : Addr) (q0 : Int32) : Prop := (∃ (ta : Addr) (kt : ClassId) (y0 : Int32), ex1 Z h so ∧ fl2 Z h so (.ref ta) ∧ fl0 Z h so (.int (0 : Int32)) ∧ Arv Z h ta kt .byte (1 : Int32) [(.int y0)] (.int (0 : Int32)) ∧ own_lc y0 = q0) ∨ (∃ (ta : Addr) (kt : ClassId) (y0 : Int32) (z0 : Int32), ex1 Z h so ∧ fl2 Z h so (.ref ta) ∧ fl0 Z h so (.int (1 : Int32)) ∧ Arv Z h ta kt .byte (2 : Int32) [(.int y0), (.int z0)] (.int (0 : Int32)) ∧ own_u y0 z0 = q0)
def own_Str2 (Z : State) (h : Heap) (so : Addr) (q0 : Int32) (q1 : Int32) : Prop := (∃ (ta : Addr) (kt : ClassId) (y0 : Int32) (y1 : Int32), ex1 Z h so ∧ fl2 Z h so (.ref ta) ∧ fl0 Z h so (.int (0 : Int32)) ∧ Arv Z h ta kt .byte (2 : Int32) [(.int y0), (.int y1)] (.int (0 : Int32)) ∧ own_lc y0 = q0 ∧ own_lc y1 = q1) ∨ (∃ (ta : Addr) (kt : ClassId) (y0 : Int32) (y1 : Int32) (z0 : Int32) (z1 : Int32), ex1 Z h so ∧ fl2 Z h so (.ref ta) ∧ fl0 Z h so (.int (1 : Int32)) ∧ Arv Z h ta kt .byte (4 : Int32) [(.int y0), (.int z0), (.int y1), (.int z1)] (.int (0 : Int32)) ∧ own_u y0 z0 = q0 ∧ own_u y1 z1 = q1)
def own_Str3 (Z : State) (h : Heap) (so : Addr) (q0 : Int32) (q1 : Int32) (q2 : Int32) : Prop := (∃ (ta : Addr) (kt : ClassId) (y0 : Int32) (y1 : Int32) (y2 : Int32), ex1 Z h so ∧ fl2 Z h so (.ref ta) ∧ fl0 Z h so (.int (0 : Int32)) ∧ Arv Z h ta kt .byte (3 : Int32) [(.int y0), (.int y1), (.int y2)] (.int (0 : Int32)) ∧ own_lc y0 = q0 ∧ own_lc y1 = q1 ∧ own_lc y2 = q2) ∨ (∃ (ta : Addr) (kt : ClassId) (y0 : Int32) (y1 : Int32) (y2 : Int32) (z0 : Int32) (z1 : Int32) (z2 : Int32), ex1 Z h so ∧ fl2 Z h so (.ref ta) ∧ fl0 Z h so (.int (1 : Int32)) ∧ Arv Z h ta kt .byte (6 : Int32) [(.int y0), (.int z0), (.int y1), (.int z1), (.int y2), (.int z2)] (.int (0 : Int32)) ∧ own_u y0 z0 = q0 ∧ own_u y1 z1 = q1 ∧ own_u y2 z2 = q2)
abbrev my10 : MethodName := (⟨"java/lang/StringUTF16", "coderFromArrayLen", "([BI)B"⟩ : MethodName)
theorem d10_2 : decode jdk_52_method_15_code 2 = .ok (.arraylength, 1) := by decide +kernel
theorem d10_8 : decode jdk_52_method_15_code 8 = .ok (.ireturn, 1) := by decide +kernel
theorem e10_0_2 : own_dec jdk_52_method_15_code 0 [(.iload_n 1, 1), (.aload_n 0, 1)] = true := by decide +kernel
theorem e10_3_4 : own_dec jdk_52_method_15_code 3 [(.isub, 1), (.bipush 31, 2), (.iushr, 1), (.i2b, 1)] = true := by decide +kernel
def Q10n10 (Z : State) (va : Addr) (kk : ClassId) (vs : List Value) (h0 : Heap) (n0 : Nat) (v : Option Value) (h : Heap) (L : List Loc) : Prop := v = some (.int (0 : Int32)) ∧ Fr n0 L ∧ h = h0
set_option maxRecDepth 65536 in
set_option maxHeartbeats 40000000 in
theorem rm10n10 (l : Launch) (Z : State) (a0 : Array Value) (hw : OW a0 Z) (ws : List Jvm.Cond) (va : Addr) (kk : ClassId) (vs : List Value) (h0 : Heap) (n0 : Nat) (Z0 : n0 ≤ h0.size) (P0 : Arv Z h0 va kk .byte (1 : Int32) vs (.int (0 : Int32))) :
    own_Met l my10 jdk_52_method_15_code 2 (some .byte) ws (own_rm 0 0 0 0) #[(.ref va), (.int (1 : Int32))] Z h0 (Q10n10 Z va kk vs h0 n0) 0 0 := by
  refine own_body (plainFor_of_name pn_3) (fun m => by first | (simp [entryFrame, mkF, argsToLocals, Value.category]; done) | rfl) (Ls := #[.val (.ref va), .val (.int (1 : Int32))]) fun p e s m below meth c s₁ X0 hx hby hml hZ e0 hown hnm hlk hrt => ?_
  have N0 := Fr.nil n0
  have lt_P0 : @LT.lt Nat _ va (Array.size h0) := P0.lt
  refine own_ru 2 [(.ref va), (.int (1 : Int32))] X0 hx hby e10_0_2 rfl rfl ?_
  refine own_aL X0 hx hZ e0 P0 3 rfl (hb hby d10_2) rfl ?_
  refine own_ru 8 [(.int (0 : Int32))] X0 hx hby e10_3_4 rfl rfl ?_
  have hq195 : Q10n10 Z va kk vs h0 n0 (some (.int (nar .byte (0 : Int32)))) h0 _ := ⟨rfl, N0, rfl⟩
  exact own_retN X0 hx hlk (t := .byte) hrt (by simp) (hb hby d10_8) e0 hq195 (by decide) (by decide)
def Q10n11 (Z : State) (va : Addr) (kk : ClassId) (vs : List Value) (h0 : Heap) (n0 : Nat) (v : Option Value) (h : Heap) (L : List Loc) : Prop := v = some (.int (1 : Int32)) ∧ Fr n0 L ∧ h = h0
set_option maxRecDepth 65536 in
set_option maxHeartbeats 40000000 in
theorem rm10n11 (l : Launch) (Z : State) (a0 : Array Value) (hw : OW a0 Z) (ws : List Jvm.Cond) (va : Addr) (kk : ClassId) (vs : List Value) (h0 : Heap) (n0 : Nat) (Z0 : n0 ≤ h0.size) (P0 : Arv Z h0 va kk .byte (2 : Int32) vs (.int (0 : Int32))) :
    own_Met l my10 jdk_52_method_15_code 2 (some .byte) ws (own_rm 0 0 0 0) #[(.ref va), (.int (1 : Int32))] Z h0 (Q10n11 Z va kk vs h0 n0) 0 0 := by
  refine own_body (plainFor_of_name pn_3) (fun m => by first | (simp [entryFrame, mkF, argsToLocals, Value.category]; done) | rfl) (Ls := #[.val (.ref va), .val (.int (1 : Int32))]) fun p e s m below meth c s₁ X0 hx hby hml hZ e0 hown hnm hlk hrt => ?_
  have N0 := Fr.nil n0
  have lt_P0 : @LT.lt Nat _ va (Array.size h0) := P0.lt
  refine own_ru 2 [(.ref va), (.int (1 : Int32))] X0 hx hby e10_0_2 rfl rfl ?_
  refine own_aL X0 hx hZ e0 P0 3 rfl (hb hby d10_2) rfl ?_
  refine own_ru 8 [(.int (1 : Int32))] X0 hx hby e10_3_4 rfl rfl ?_
  have hq196 : Q10n11 Z va kk vs h0 n0 (some (.int (nar .byte (1 : Int32)))) h0 _ := ⟨rfl, N0, rfl⟩
  exact own_retN X0 hx hlk (t := .byte) hrt (by simp) (hb hby d10_8) e0 hq196 (by decide) (by decide)
abbrev my3 : MethodName := (⟨"java/lang/String", "<init>", "([CIILjava/lang/Void;)V"⟩ : MethodName)
theorem d3_1 : decode jdk_42_method_149_code 1 = .ok (.invokespecial 1, 3) := by decide +kernel
theorem d3_5 : decode jdk_42_method_149_code 5 = .ok (.ifCond .ne 22, 3) := by decide +kernel
theorem d3_27 : decode jdk_42_method_149_code 27 = .ok (.getstatic 38, 3) := by decide +kernel
theorem d3_30 : decode jdk_42_method_149_code 30 = .ok (.ifCond .eq 28, 3) := by decide +kernel
theorem d3_36 : decode jdk_42_method_149_code 36 = .ok (.invokestatic 177, 3) := by decide +kernel
theorem d3_45 : decode jdk_42_method_149_code 45 = .ok (.invokestatic 47, 3) := by decide +kernel
theorem d3_48 : decode jdk_42_method_149_code 48 = .ok (.putfield 15, 3) := by decide +kernel
theorem d3_54 : decode jdk_42_method_149_code 54 = .ok (.putfield 9, 3) := by decide +kernel
theorem d3_57 : decode jdk_42_method_149_code 57 = .ok (.return_, 1) := by decide +kernel
theorem e3_0_1 : own_dec jdk_42_method_149_code 0 [(.aload_n 0, 1)] = true := by decide +kernel
theorem e3_4_1 : own_dec jdk_42_method_149_code 4 [(.iload_n 3, 1)] = true := by decide +kernel
theorem e3_33_3 : own_dec jdk_42_method_149_code 33 [(.aload_n 1, 1), (.iload_n 2, 1), (.iload_n 3, 1)] = true := by decide +kernel
theorem e3_39_4 : own_dec jdk_42_method_149_code 39 [(.astore 5, 2), (.aload_n 0, 1), (.aload 5, 2), (.iload_n 3, 1)] = true := by decide +kernel
theorem e3_51_2 : own_dec jdk_42_method_149_code 51 [(.aload_n 0, 1), (.aload 5, 2)] = true := by decide +kernel
theorem pd_12 : parseMethodDescriptor "([BI)B" = some ⟨[(.array .byte), .int], some .byte⟩ := by decide +kernel
def Q3n1 (Z : State) (G1 : Int32) (G2 : Value) (s1 : Addr) (ca : Addr) (kc : ClassId) (x0 : Int32) (h0 : Heap) (n0 : Nat) (v : Option Value) (h : Heap) (L : List Loc) : Prop := v = none ∧ Fr n0 L ∧ Keep h0 h [s1] ∧ own_Str1 Z h s1 x0
set_option maxRecDepth 65536 in
set_option maxHeartbeats 40000000 in
theorem rm3n1 (l : Launch) (Z : State) (a0 : Array Value) (hw : OW a0 Z) (ws : List Jvm.Cond) (G1 : Int32) (G2 : Value) (s1 : Addr) (ca : Addr) (kc : ClassId) (x0 : Int32) (h0 : Heap) (n0 : Nat) (Z0 : n0 ≤ h0.size) (OLD : Old Z n0 h0) (A : Amb Z G1 G2) (P0 : ex1 Z h0 s1) (P1 : fl2 Z h0 s1 .null) (P2 : fl0 Z h0 s1 (.int (0 : Int32))) (P3 : Arv Z h0 ca kc .char (1 : Int32) [(.int x0)] (.int (0 : Int32))) (g_s1 : n0 ≤ s1) (hx0 : own_ch x0) (hne : @Ne Nat s1 ca) :
    own_Met l my3 jdk_42_method_149_code 6 none ws (own_rm 4 2 3 57) #[(.ref s1), (.ref ca), (.int (0 : Int32)), (.int (1 : Int32)), .null] Z h0 (Q3n1 Z G1 G2 s1 ca kc x0 h0 n0) 2 3 := by
  refine own_body (plainFor_of_name pn_2) (fun m => by first | (simp [entryFrame, mkF, argsToLocals, Value.category]; done) | rfl) (Ls := #[.val (.ref s1), .val (.ref ca), .val (.int (0 : Int32)), .val (.int (1 : Int32)), .val .null, .unset]) fun p e s m below meth c s₁ X0 hx hby hml hZ e0 hown hnm hlk hrt => ?_
  have N0 := Fr.nil n0
  have lt_P0 : @LT.lt Nat _ s1 (Array.size h0) := P0.lt
  have lt_P3 : @LT.lt Nat _ ca (Array.size h0) := P3.lt
  refine own_ru 1 [(.ref s1)] X0 hx hby e3_0_1 rfl rfl ?_
  refine own_iO X0 hx hZ hown (wd16 hw) (wd17 hw) (wd18 hw) e0 4 0 (by rw [hml]; rfl) rfl (hb hby d3_1) rfl (by decide) rfl (by decide) fun T197 X197 e197 => ?_
  refine own_ru 5 [(.int (1 : Int32))] X197 hx hby e3_4_1 rfl rfl ?_
  refine own_iY 27 X197 hx (hb hby d3_5) rfl ((if0 _ _).trans (feq (by decide : ¬ ((1 : Int32) = (0 : Int32)))).2) (by decide) (by decide) ?_
  have f198 : Sta Z h0 "java/lang/String" "COMPACT_STRINGS" "Z" (.int G1) := Sta.ext OLD.2 (Amb.a0 A)
  refine own_gS X197 hx hZ hown (host := "") (Or.inl (wd41 hw)) Via.refl e197 f198 30 (hb hby d3_27) rfl fun T199 X199 e199 => ?_
  refine own_iN 33 X199 hx (hb hby d3_30) rfl ((if0 _ _).trans (feq (Amb.g1 A)).1) rfl ?_
  refine own_ru 36 [(.int (1 : Int32)), (.int (0 : Int32)), (.ref ca)] X199 hx hby e3_33_3 rfl rfl ?_
  refine own_cS X199 hx hZ hown (wd43 hw) (wd44 hw) (by decide) (wd46 hw) (wd45 hw) (rm8n1 l Z a0 hw [] G1 G2 ca kc x0 h0 n0 (by omega) OLD A P3 hx0) e199  [(.ref ca), (.int (0 : Int32)), (.int (1 : Int32))] [] 39 0 (hb hby d3_36) rfl (by rw [hml]; rfl) rfl rfl (lenOf pd_11 rfl) rfl (by decide) fun v200 T200 Lc200 X200 hQ200 => ?_
  obtain ⟨ob_200, rfl, N200q, K200, G200_0, U200_0⟩ := hQ200
  have N200 := Fr.app N0 N200q
  have z200 := K200.1
  have KK200 : Keep h0 T200.heap [s1] := (Keep.refl h0 [s1]).trans K200 all0
  rcases G200_0 with ⟨kw, hV, hb0⟩ | ⟨kw, hV⟩
  · have ltw : @LT.lt Nat _ ob_200 (Array.size T200.heap) := hV.lt
    refine own_rl 45 #[.val (.ref s1), .val (.ref ca), .val (.int (0 : Int32)), .val (.int (1 : Int32)), .val .null, .val (.ref ob_200)] [(.int (1 : Int32)), (.ref ob_200), (.ref s1)] X200 hx hby e3_39_4 rfl rfl ?_
    refine own_cS X200 hx hZ hown (wd50 hw) (wd51 hw) (by decide) (wd52 hw) (wd45 hw) (rm10n10 l Z a0 hw [] ob_200 kw [(.int (own_b8 x0))] T200.heap n0 (by omega) hV) rfl  [(.ref ob_200), (.int (1 : Int32))] [(.ref s1)] 48 1 (hb hby d3_45) rfl (by rw [hml]; rfl) rfl rfl (lenOf pd_12 rfl) rfl (by decide) fun v201 T201 Lc201 X201 hQ201 => ?_
    obtain ⟨rfl, N201q, e201⟩ := hQ201
    have N201 := Fr.app N200 N201q
    have f202 := (Exa.keep P0 K200)
    have f203 := (P2.keep K200 nin0)
    refine own_pN X201 hx hZ hown (wd26 hw) Via.refl e201 f203 f202 (Or.inr ⟨(wd22 hw), rfl, hnm⟩) (wd7 hw) (ty := .byte) (v' := (.int (0 : Int32))) (by decide) rfl (by decide) 51 rfl (hb hby d3_48) rfl fun T204 h204 X204 e204 W204 => ?_
    have F204 := Fld.same W204 f203
    have z204 := W204.size
    have KK204 : Keep h0 h204 [s1] := KK200.wr W204 (Or.inl (by simp))
    have N204 := Fr.snoc X204 N201 (by omega)
    refine own_ru 54 [(.ref ob_200), (.ref s1)] X204 hx hby e3_51_2 rfl rfl ?_
    have f205 := (Exa.wr W204 f202)
    have f206 := (Fld.other W204 (P1.keep K200 nin0) (Or.inr (slot_ne (Or.inr (wd21 hw)) (Or.inr (wd22 hw)) (by decide) (t := (.array .byte)) (t' := .byte) (by decide) (by decide))))
    refine own_pF X204 hx hZ hown (host := "") (Or.inl (wd25 hw)) Via.refl e204 f206 f205 (Or.inr ⟨(wd21 hw), rfl, hnm⟩) (wd7 hw) (ty := (.array .byte)) (by decide) rfl rfl 57 rfl (hb hby d3_54) rfl fun T207 h207 X207 e207 W207 => ?_
    have F207 := Fld.same W207 f206
    have z207 := W207.size
    have KK207 : Keep h0 h207 [s1] := KK204.wr W207 (Or.inl (by simp))
    have N207 := Fr.snoc X207 N204 (by omega)
    have f209 := (Exa.wr W207 f205)
    have f210 := (Fld.other W207 F204 (Or.inr (slot_ne (Or.inr (wd22 hw)) (Or.inr (wd21 hw)) (by decide) (t := .byte) (t' := (.array .byte)) (by decide) (by decide))))
    have f211 := ((hV.other W204 (own_ne (by omega))).other W207 (own_ne (by omega)))
    have hq208 : Q3n1 Z G1 G2 s1 ca kc x0 h0 n0 none h207 _ := ⟨rfl, N207, KK207, Or.inl ⟨ob_200, kw, (own_b8 x0), f209, F207, f210, f211, own_lOk hx0 hb0⟩⟩
    exact own_retV X207 hx hlk hrt (hb hby d3_57) e207 hq208 (by decide) (by decide)
  · have ltw : @LT.lt Nat _ ob_200 (Array.size T200.heap) := hV.lt
    refine own_rl 45 #[.val (.ref s1), .val (.ref ca), .val (.int (0 : Int32)), .val (.int (1 : Int32)), .val .null, .val (.ref ob_200)] [(.int (1 : Int32)), (.ref ob_200), (.ref s1)] X200 hx hby e3_39_4 rfl rfl ?_
    refine own_cS X200 hx hZ hown (wd50 hw) (wd51 hw) (by decide) (wd52 hw) (wd45 hw) (rm10n11 l Z a0 hw [] ob_200 kw [(.int (own_e0 x0)), (.int (own_e1 x0))] T200.heap n0 (by omega) hV) rfl  [(.ref ob_200), (.int (1 : Int32))] [(.ref s1)] 48 1 (hb hby d3_45) rfl (by rw [hml]; rfl) rfl rfl (lenOf pd_12 rfl) rfl (by decide) fun v212 T212 Lc212 X212 hQ212 => ?_
    obtain ⟨rfl, N212q, e212⟩ := hQ212
    have N212 := Fr.app N200 N212q
    have f213 := (Exa.keep P0 K200)
    have f214 := (P2.keep K200 nin0)
    refine own_pN X212 hx hZ hown (wd26 hw) Via.refl e212 f214 f213 (Or.inr ⟨(wd22 hw), rfl, hnm⟩) (wd7 hw) (ty := .byte) (v' := (.int (1 : Int32))) (by decide) rfl (by decide) 51 rfl (hb hby d3_48) rfl fun T215 h215 X215 e215 W215 => ?_
    have F215 := Fld.same W215 f214
    have z215 := W215.size
    have KK215 : Keep h0 h215 [s1] := KK200.wr W215 (Or.inl (by simp))
    have N215 := Fr.snoc X215 N212 (by omega)
    refine own_ru 54 [(.ref ob_200), (.ref s1)] X215 hx hby e3_51_2 rfl rfl ?_
    have f216 := (Exa.wr W215 f213)
    have f217 := (Fld.other W215 (P1.keep K200 nin0) (Or.inr (slot_ne (Or.inr (wd21 hw)) (Or.inr (wd22 hw)) (by decide) (t := (.array .byte)) (t' := .byte) (by decide) (by decide))))
    refine own_pF X215 hx hZ hown (host := "") (Or.inl (wd25 hw)) Via.refl e215 f217 f216 (Or.inr ⟨(wd21 hw), rfl, hnm⟩) (wd7 hw) (ty := (.array .byte)) (by decide) rfl rfl 57 rfl (hb hby d3_54) rfl fun T218 h218 X218 e218 W218 => ?_
    have F218 := Fld.same W218 f217
    have z218 := W218.size
    have KK218 : Keep h0 h218 [s1] := KK215.wr W218 (Or.inl (by simp))
    have N218 := Fr.snoc X218 N215 (by omega)
    have f220 := (Exa.wr W218 f216)
    have f221 := (Fld.other W218 F215 (Or.inr (slot_ne (Or.inr (wd22 hw)) (Or.inr (wd21 hw)) (by decide) (t := .byte) (t' := (.array .byte)) (by decide) (by decide))))
    have f222 := ((hV.other W215 (own_ne (by omega))).other W218 (own_ne (by omega)))
    have hq219 : Q3n1 Z G1 G2 s1 ca kc x0 h0 n0 none h218 _ := ⟨rfl, N218, KK218, Or.inr ⟨ob_200, kw, (own_e0 x0), (own_e1 x0), f220, F218, f221, f222, own_uOk hx0⟩⟩
    exact own_retV X218 hx hlk hrt (hb hby d3_57) e218 hq219 (by decide) (by decide)
abbrev my2 : MethodName := (⟨"java/lang/String", "<init>", "([C)V"⟩ : MethodName)
theorem d2_4 : decode jdk_42_method_3_code 4 = .ok (.arraylength, 1) := by decide +kernel
theorem d2_6 : decode jdk_42_method_3_code 6 = .ok (.invokespecial 27, 3) := by decide +kernel
theorem d2_9 : decode jdk_42_method_3_code 9 = .ok (.return_, 1) := by decide +kernel
theorem e2_0_4 : own_dec jdk_42_method_3_code 0 [(.aload_n 0, 1), (.aload_n 1, 1), (.iconst 0, 1), (.aload_n 1, 1)] = true := by decide +kernel
theorem e2_5_1 : own_dec jdk_42_method_3_code 5 [(.aconst_null, 1)] = true := by decide +kernel
theorem pd_13 : parseMethodDescriptor "([CIILjava/lang/Void;)V" = some ⟨[(.array .char), .int, .int, (.object "java/lang/Void")], none⟩ := by decide +kernel
def Q2n1 (Z : State) (G1 : Int32) (G2 : Value) (s1 : Addr) (ca : Addr) (kc : ClassId) (x0 : Int32) (h0 : Heap) (n0 : Nat) (v : Option Value) (h : Heap) (L : List Loc) : Prop := v = none ∧ Fr n0 L ∧ Keep h0 h [s1] ∧ own_Str1 Z h s1 x0
set_option maxRecDepth 65536 in
set_option maxHeartbeats 40000000 in
theorem rm2n1 (l : Launch) (Z : State) (a0 : Array Value) (hw : OW a0 Z) (ws : List Jvm.Cond) (G1 : Int32) (G2 : Value) (s1 : Addr) (ca : Addr) (kc : ClassId) (x0 : Int32) (h0 : Heap) (n0 : Nat) (Z0 : n0 ≤ h0.size) (OLD : Old Z n0 h0) (A : Amb Z G1 G2) (P0 : ex1 Z h0 s1) (P1 : fl2 Z h0 s1 .null) (P2 : fl0 Z h0 s1 (.int (0 : Int32))) (P3 : Arv Z h0 ca kc .char (1 : Int32) [(.int x0)] (.int (0 : Int32))) (g_s1 : n0 ≤ s1) (hx0 : own_ch x0) (hne : @Ne Nat s1 ca) :
    own_Met l my2 jdk_42_method_3_code 2 none ws (own_rm 5 2 3 74) #[(.ref s1), (.ref ca)] Z h0 (Q2n1 Z G1 G2 s1 ca kc x0 h0 n0) 2 3 := by
  refine own_body (plainFor_of_name pn_2) (fun m => by first | (simp [entryFrame, mkF, argsToLocals, Value.category]; done) | rfl) (Ls := #[.val (.ref s1), .val (.ref ca)]) fun p e s m below meth c s₁ X0 hx hby hml hZ e0 hown hnm hlk hrt => ?_
  have N0 := Fr.nil n0
  have lt_P0 : @LT.lt Nat _ s1 (Array.size h0) := P0.lt
  have lt_P3 : @LT.lt Nat _ ca (Array.size h0) := P3.lt
  refine own_ru 4 [(.ref ca), (.int (0 : Int32)), (.ref ca), (.ref s1)] X0 hx hby e2_0_4 rfl rfl ?_
  refine own_aL X0 hx hZ e0 P3 5 rfl (hb hby d2_4) rfl ?_
  refine own_ru 6 [.null, (.int (1 : Int32)), (.int (0 : Int32)), (.ref ca), (.ref s1)] X0 hx hby e2_5_1 rfl rfl ?_
  refine own_cN X0 hx hZ hown rfl (wd12 hw) (wd13 hw) (by decide) (wd15 hw) (wd8 hw) (rm3n1 l Z a0 hw [] G1 G2 s1 ca kc x0 h0 n0 (by omega) OLD A P0 P1 P2 P3 (by omega) hx0 (by first | assumption | decide | omega)) e0  [(.ref ca), (.int (0 : Int32)), (.int (1 : Int32)), .null] [] 9 0 (hb hby d2_6) rfl (by rw [hml]; rfl) rfl rfl (lenOf pd_13 rfl) rfl (by decide) fun v223 T223 Lc223 X223 hQ223 => ?_
  obtain ⟨rfl, N223q, K223, G223_0⟩ := hQ223
  have N223 := Fr.app N0 N223q
  have z223 := K223.1
  have KK223 : Keep h0 T223.heap [s1] := (Keep.refl h0 [s1]).trans K223 (allS (Or.inl (by simp)) all0)
  have hq224 : Q2n1 Z G1 G2 s1 ca kc x0 h0 n0 none T223.heap _ := ⟨rfl, N223, KK223, G223_0⟩
  exact own_retV X223 hx hlk hrt (hb hby d2_9) rfl hq224 (by decide) (by decide)
def Q10n20 (Z : State) (va : Addr) (kk : ClassId) (vs : List Value) (h0 : Heap) (n0 : Nat) (v : Option Value) (h : Heap) (L : List Loc) : Prop := v = some (.int (0 : Int32)) ∧ Fr n0 L ∧ h = h0
set_option maxRecDepth 65536 in
set_option maxHeartbeats 40000000 in
theorem rm10n20 (l : Launch) (Z : State) (a0 : Array Value) (hw : OW a0 Z) (ws : List Jvm.Cond) (va : Addr) (kk : ClassId) (vs : List Value) (h0 : Heap) (n0 : Nat) (Z0 : n0 ≤ h0.size) (P0 : Arv Z h0 va kk .byte (2 : Int32) vs (.int (0 : Int32))) :
    own_Met l my10 jdk_52_method_15_code 2 (some .byte) ws (own_rm 0 0 0 0) #[(.ref va), (.int (2 : Int32))] Z h0 (Q10n20 Z va kk vs h0 n0) 0 0 := by
  refine own_body (plainFor_of_name pn_3) (fun m => by first | (simp [entryFrame, mkF, argsToLocals, Value.category]; done) | rfl) (Ls := #[.val (.ref va), .val (.int (2 : Int32))]) fun p e s m below meth c s₁ X0 hx hby hml hZ e0 hown hnm hlk hrt => ?_
  have N0 := Fr.nil n0
  have lt_P0 : @LT.lt Nat _ va (Array.size h0) := P0.lt
  refine own_ru 2 [(.ref va), (.int (2 : Int32))] X0 hx hby e10_0_2 rfl rfl ?_
  refine own_aL X0 hx hZ e0 P0 3 rfl (hb hby d10_2) rfl ?_
  refine own_ru 8 [(.int (0 : Int32))] X0 hx hby e10_3_4 rfl rfl ?_
  have hq225 : Q10n20 Z va kk vs h0 n0 (some (.int (nar .byte (0 : Int32)))) h0 _ := ⟨rfl, N0, rfl⟩
  exact own_retN X0 hx hlk (t := .byte) hrt (by simp) (hb hby d10_8) e0 hq225 (by decide) (by decide)
def Q10n21 (Z : State) (va : Addr) (kk : ClassId) (vs : List Value) (h0 : Heap) (n0 : Nat) (v : Option Value) (h : Heap) (L : List Loc) : Prop := v = some (.int (1 : Int32)) ∧ Fr n0 L ∧ h = h0
set_option maxRecDepth 65536 in
set_option maxHeartbeats 40000000 in
theorem rm10n21 (l : Launch) (Z : State) (a0 : Array Value) (hw : OW a0 Z) (ws : List Jvm.Cond) (va : Addr) (kk : ClassId) (vs : List Value) (h0 : Heap) (n0 : Nat) (Z0 : n0 ≤ h0.size) (P0 : Arv Z h0 va kk .byte (4 : Int32) vs (.int (0 : Int32))) :
    own_Met l my10 jdk_52_method_15_code 2 (some .byte) ws (own_rm 0 0 0 0) #[(.ref va), (.int (2 : Int32))] Z h0 (Q10n21 Z va kk vs h0 n0) 0 0 := by
  refine own_body (plainFor_of_name pn_3) (fun m => by first | (simp [entryFrame, mkF, argsToLocals, Value.category]; done) | rfl) (Ls := #[.val (.ref va), .val (.int (2 : Int32))]) fun p e s m below meth c s₁ X0 hx hby hml hZ e0 hown hnm hlk hrt => ?_
  have N0 := Fr.nil n0
  have lt_P0 : @LT.lt Nat _ va (Array.size h0) := P0.lt
  refine own_ru 2 [(.ref va), (.int (2 : Int32))] X0 hx hby e10_0_2 rfl rfl ?_
  refine own_aL X0 hx hZ e0 P0 3 rfl (hb hby d10_2) rfl ?_
  refine own_ru 8 [(.int (1 : Int32))] X0 hx hby e10_3_4 rfl rfl ?_
  have hq226 : Q10n21 Z va kk vs h0 n0 (some (.int (nar .byte (1 : Int32)))) h0 _ := ⟨rfl, N0, rfl⟩
  exact own_retN X0 hx hlk (t := .byte) hrt (by simp) (hb hby d10_8) e0 hq226 (by decide) (by decide)
def Q3n2 (Z : State) (G1 : Int32) (G2 : Value) (s1 : Addr) (ca : Addr) (kc : ClassId) (x0 : Int32) (x1 : Int32) (h0 : Heap) (n0 : Nat) (v : Option Value) (h : Heap) (L : List Loc) : Prop := v = none ∧ Fr n0 L ∧ Keep h0 h [s1] ∧ own_Str2 Z h s1 x0 x1
set_option maxRecDepth 65536 in
set_option maxHeartbeats 40000000 in
theorem rm3n2 (l : Launch) (Z : State) (a0 : Array Value) (hw : OW a0 Z) (ws : List Jvm.Cond) (G1 : Int32) (G2 : Value) (s1 : Addr) (ca : Addr) (kc : ClassId) (x0 : Int32) (x1 : Int32) (h0 : Heap) (n0 : Nat) (Z0 : n0 ≤ h0.size) (OLD : Old Z n0 h0) (A : Amb Z G1 G2) (P0 : ex1 Z h0 s1) (P1 : fl2 Z h0 s1 .null) (P2 : fl0 Z h0 s1 (.int (0 : Int32))) (P3 : Arv Z h0 ca kc .char (2 : Int32) [(.int x0), (.int x1)] (.int (0 : Int32))) (g_s1 : n0 ≤ s1) (hx0 : own_ch x0) (hx1 : own_ch x1) (hne : @Ne Nat s1 ca) :
    own_Met l my3 jdk_42_method_149_code 6 none ws (own_rm 4 2 6 57) #[(.ref s1), (.ref ca), (.int (0 : Int32)), (.int (2 : Int32)), .null] Z h0 (Q3n2 Z G1 G2 s1 ca kc x0 x1 h0 n0) 2 6 := by
  refine own_body (plainFor_of_name pn_2) (fun m => by first | (simp [entryFrame, mkF, argsToLocals, Value.category]; done) | rfl) (Ls := #[.val (.ref s1), .val (.ref ca), .val (.int (0 : Int32)), .val (.int (2 : Int32)), .val .null, .unset]) fun p e s m below meth c s₁ X0 hx hby hml hZ e0 hown hnm hlk hrt => ?_
  have N0 := Fr.nil n0
  have lt_P0 : @LT.lt Nat _ s1 (Array.size h0) := P0.lt
  have lt_P3 : @LT.lt Nat _ ca (Array.size h0) := P3.lt
  refine own_ru 1 [(.ref s1)] X0 hx hby e3_0_1 rfl rfl ?_
  refine own_iO X0 hx hZ hown (wd16 hw) (wd17 hw) (wd18 hw) e0 4 0 (by rw [hml]; rfl) rfl (hb hby d3_1) rfl (by decide) rfl (by decide) fun T227 X227 e227 => ?_
  refine own_ru 5 [(.int (2 : Int32))] X227 hx hby e3_4_1 rfl rfl ?_
  refine own_iY 27 X227 hx (hb hby d3_5) rfl ((if0 _ _).trans (feq (by decide : ¬ ((2 : Int32) = (0 : Int32)))).2) (by decide) (by decide) ?_
  have f228 : Sta Z h0 "java/lang/String" "COMPACT_STRINGS" "Z" (.int G1) := Sta.ext OLD.2 (Amb.a0 A)
  refine own_gS X227 hx hZ hown (host := "") (Or.inl (wd41 hw)) Via.refl e227 f228 30 (hb hby d3_27) rfl fun T229 X229 e229 => ?_
  refine own_iN 33 X229 hx (hb hby d3_30) rfl ((if0 _ _).trans (feq (Amb.g1 A)).1) rfl ?_
  refine own_ru 36 [(.int (2 : Int32)), (.int (0 : Int32)), (.ref ca)] X229 hx hby e3_33_3 rfl rfl ?_
  refine own_cS X229 hx hZ hown (wd43 hw) (wd44 hw) (by decide) (wd46 hw) (wd45 hw) (rm8n2 l Z a0 hw [] G1 G2 ca kc x0 x1 h0 n0 (by omega) OLD A P3 hx0 hx1) e229  [(.ref ca), (.int (0 : Int32)), (.int (2 : Int32))] [] 39 0 (hb hby d3_36) rfl (by rw [hml]; rfl) rfl rfl (lenOf pd_11 rfl) rfl (by decide) fun v230 T230 Lc230 X230 hQ230 => ?_
  obtain ⟨ob_230, rfl, N230q, K230, G230_0, U230_0⟩ := hQ230
  have N230 := Fr.app N0 N230q
  have z230 := K230.1
  have KK230 : Keep h0 T230.heap [s1] := (Keep.refl h0 [s1]).trans K230 all0
  rcases G230_0 with ⟨kw, hV, hb0, hb1⟩ | ⟨kw, hV⟩
  · have ltw : @LT.lt Nat _ ob_230 (Array.size T230.heap) := hV.lt
    refine own_rl 45 #[.val (.ref s1), .val (.ref ca), .val (.int (0 : Int32)), .val (.int (2 : Int32)), .val .null, .val (.ref ob_230)] [(.int (2 : Int32)), (.ref ob_230), (.ref s1)] X230 hx hby e3_39_4 rfl rfl ?_
    refine own_cS X230 hx hZ hown (wd50 hw) (wd51 hw) (by decide) (wd52 hw) (wd45 hw) (rm10n20 l Z a0 hw [] ob_230 kw [(.int (own_b8 x0)), (.int (own_b8 x1))] T230.heap n0 (by omega) hV) rfl  [(.ref ob_230), (.int (2 : Int32))] [(.ref s1)] 48 1 (hb hby d3_45) rfl (by rw [hml]; rfl) rfl rfl (lenOf pd_12 rfl) rfl (by decide) fun v231 T231 Lc231 X231 hQ231 => ?_
    obtain ⟨rfl, N231q, e231⟩ := hQ231
    have N231 := Fr.app N230 N231q
    have f232 := (Exa.keep P0 K230)
    have f233 := (P2.keep K230 nin0)
    refine own_pN X231 hx hZ hown (wd26 hw) Via.refl e231 f233 f232 (Or.inr ⟨(wd22 hw), rfl, hnm⟩) (wd7 hw) (ty := .byte) (v' := (.int (0 : Int32))) (by decide) rfl (by decide) 51 rfl (hb hby d3_48) rfl fun T234 h234 X234 e234 W234 => ?_
    have F234 := Fld.same W234 f233
    have z234 := W234.size
    have KK234 : Keep h0 h234 [s1] := KK230.wr W234 (Or.inl (by simp))
    have N234 := Fr.snoc X234 N231 (by omega)
    refine own_ru 54 [(.ref ob_230), (.ref s1)] X234 hx hby e3_51_2 rfl rfl ?_
    have f235 := (Exa.wr W234 f232)
    have f236 := (Fld.other W234 (P1.keep K230 nin0) (Or.inr (slot_ne (Or.inr (wd21 hw)) (Or.inr (wd22 hw)) (by decide) (t := (.array .byte)) (t' := .byte) (by decide) (by decide))))
    refine own_pF X234 hx hZ hown (host := "") (Or.inl (wd25 hw)) Via.refl e234 f236 f235 (Or.inr ⟨(wd21 hw), rfl, hnm⟩) (wd7 hw) (ty := (.array .byte)) (by decide) rfl rfl 57 rfl (hb hby d3_54) rfl fun T237 h237 X237 e237 W237 => ?_
    have F237 := Fld.same W237 f236
    have z237 := W237.size
    have KK237 : Keep h0 h237 [s1] := KK234.wr W237 (Or.inl (by simp))
    have N237 := Fr.snoc X237 N234 (by omega)
    have f239 := (Exa.wr W237 f235)
    have f240 := (Fld.other W237 F234 (Or.inr (slot_ne (Or.inr (wd22 hw)) (Or.inr (wd21 hw)) (by decide) (t := .byte) (t' := (.array .byte)) (by decide) (by decide))))
    have f241 := ((hV.other W234 (own_ne (by omega))).other W237 (own_ne (by omega)))
    have hq238 : Q3n2 Z G1 G2 s1 ca kc x0 x1 h0 n0 none h237 _ := ⟨rfl, N237, KK237, Or.inl ⟨ob_230, kw, (own_b8 x0), (own_b8 x1), f239, F237, f240, f241, own_lOk hx0 hb0, own_lOk hx1 hb1⟩⟩
    exact own_retV X237 hx hlk hrt (hb hby d3_57) e237 hq238 (by decide) (by decide)
  · have ltw : @LT.lt Nat _ ob_230 (Array.size T230.heap) := hV.lt
    refine own_rl 45 #[.val (.ref s1), .val (.ref ca), .val (.int (0 : Int32)), .val (.int (2 : Int32)), .val .null, .val (.ref ob_230)] [(.int (2 : Int32)), (.ref ob_230), (.ref s1)] X230 hx hby e3_39_4 rfl rfl ?_
    refine own_cS X230 hx hZ hown (wd50 hw) (wd51 hw) (by decide) (wd52 hw) (wd45 hw) (rm10n21 l Z a0 hw [] ob_230 kw [(.int (own_e0 x0)), (.int (own_e1 x0)), (.int (own_e0 x1)), (.int (own_e1 x1))] T230.heap n0 (by omega) hV) rfl  [(.ref ob_230), (.int (2 : Int32))] [(.ref s1)] 48 1 (hb hby d3_45) rfl (by rw [hml]; rfl) rfl rfl (lenOf pd_12 rfl) rfl (by decide) fun v242 T242 Lc242 X242 hQ242 => ?_
    obtain ⟨rfl, N242q, e242⟩ := hQ242
    have N242 := Fr.app N230 N242q
    have f243 := (Exa.keep P0 K230)
    have f244 := (P2.keep K230 nin0)
    refine own_pN X242 hx hZ hown (wd26 hw) Via.refl e242 f244 f243 (Or.inr ⟨(wd22 hw), rfl, hnm⟩) (wd7 hw) (ty := .byte) (v' := (.int (1 : Int32))) (by decide) rfl (by decide) 51 rfl (hb hby d3_48) rfl fun T245 h245 X245 e245 W245 => ?_
    have F245 := Fld.same W245 f244
    have z245 := W245.size
    have KK245 : Keep h0 h245 [s1] := KK230.wr W245 (Or.inl (by simp))
    have N245 := Fr.snoc X245 N242 (by omega)
    refine own_ru 54 [(.ref ob_230), (.ref s1)] X245 hx hby e3_51_2 rfl rfl ?_
    have f246 := (Exa.wr W245 f243)
    have f247 := (Fld.other W245 (P1.keep K230 nin0) (Or.inr (slot_ne (Or.inr (wd21 hw)) (Or.inr (wd22 hw)) (by decide) (t := (.array .byte)) (t' := .byte) (by decide) (by decide))))
    refine own_pF X245 hx hZ hown (host := "") (Or.inl (wd25 hw)) Via.refl e245 f247 f246 (Or.inr ⟨(wd21 hw), rfl, hnm⟩) (wd7 hw) (ty := (.array .byte)) (by decide) rfl rfl 57 rfl (hb hby d3_54) rfl fun T248 h248 X248 e248 W248 => ?_
    have F248 := Fld.same W248 f247
    have z248 := W248.size
    have KK248 : Keep h0 h248 [s1] := KK245.wr W248 (Or.inl (by simp))
    have N248 := Fr.snoc X248 N245 (by omega)
    have f250 := (Exa.wr W248 f246)
    have f251 := (Fld.other W248 F245 (Or.inr (slot_ne (Or.inr (wd22 hw)) (Or.inr (wd21 hw)) (by decide) (t := .byte) (t' := (.array .byte)) (by decide) (by decide))))
    have f252 := ((hV.other W245 (own_ne (by omega))).other W248 (own_ne (by omega)))
    have hq249 : Q3n2 Z G1 G2 s1 ca kc x0 x1 h0 n0 none h248 _ := ⟨rfl, N248, KK248, Or.inr ⟨ob_230, kw, (own_e0 x0), (own_e0 x1), (own_e1 x0), (own_e1 x1), f250, F248, f251, f252, own_uOk hx0, own_uOk hx1⟩⟩
    exact own_retV X248 hx hlk hrt (hb hby d3_57) e248 hq249 (by decide) (by decide)
def Q2n2 (Z : State) (G1 : Int32) (G2 : Value) (s1 : Addr) (ca : Addr) (kc : ClassId) (x0 : Int32) (x1 : Int32) (h0 : Heap) (n0 : Nat) (v : Option Value) (h : Heap) (L : List Loc) : Prop := v = none ∧ Fr n0 L ∧ Keep h0 h [s1] ∧ own_Str2 Z h s1 x0 x1
set_option maxRecDepth 65536 in
set_option maxHeartbeats 40000000 in
theorem rm2n2 (l : Launch) (Z : State) (a0 : Array Value) (hw : OW a0 Z) (ws : List Jvm.Cond) (G1 : Int32) (G2 : Value) (s1 : Addr) (ca : Addr) (kc : ClassId) (x0 : Int32) (x1 : Int32) (h0 : Heap) (n0 : Nat) (Z0 : n0 ≤ h0.size) (OLD : Old Z n0 h0) (A : Amb Z G1 G2) (P0 : ex1 Z h0 s1) (P1 : fl2 Z h0 s1 .null) (P2 : fl0 Z h0 s1 (.int (0 : Int32))) (P3 : Arv Z h0 ca kc .char (2 : Int32) [(.int x0), (.int x1)] (.int (0 : Int32))) (g_s1 : n0 ≤ s1) (hx0 : own_ch x0) (hx1 : own_ch x1) (hne : @Ne Nat s1 ca) :
    own_Met l my2 jdk_42_method_3_code 2 none ws (own_rm 5 2 6 74) #[(.ref s1), (.ref ca)] Z h0 (Q2n2 Z G1 G2 s1 ca kc x0 x1 h0 n0) 2 6 := by
  refine own_body (plainFor_of_name pn_2) (fun m => by first | (simp [entryFrame, mkF, argsToLocals, Value.category]; done) | rfl) (Ls := #[.val (.ref s1), .val (.ref ca)]) fun p e s m below meth c s₁ X0 hx hby hml hZ e0 hown hnm hlk hrt => ?_
  have N0 := Fr.nil n0
  have lt_P0 : @LT.lt Nat _ s1 (Array.size h0) := P0.lt
  have lt_P3 : @LT.lt Nat _ ca (Array.size h0) := P3.lt
  refine own_ru 4 [(.ref ca), (.int (0 : Int32)), (.ref ca), (.ref s1)] X0 hx hby e2_0_4 rfl rfl ?_
  refine own_aL X0 hx hZ e0 P3 5 rfl (hb hby d2_4) rfl ?_
  refine own_ru 6 [.null, (.int (2 : Int32)), (.int (0 : Int32)), (.ref ca), (.ref s1)] X0 hx hby e2_5_1 rfl rfl ?_
  refine own_cN X0 hx hZ hown rfl (wd12 hw) (wd13 hw) (by decide) (wd15 hw) (wd8 hw) (rm3n2 l Z a0 hw [] G1 G2 s1 ca kc x0 x1 h0 n0 (by omega) OLD A P0 P1 P2 P3 (by omega) hx0 hx1 (by first | assumption | decide | omega)) e0  [(.ref ca), (.int (0 : Int32)), (.int (2 : Int32)), .null] [] 9 0 (hb hby d2_6) rfl (by rw [hml]; rfl) rfl rfl (lenOf pd_13 rfl) rfl (by decide) fun v253 T253 Lc253 X253 hQ253 => ?_
  obtain ⟨rfl, N253q, K253, G253_0⟩ := hQ253
  have N253 := Fr.app N0 N253q
  have z253 := K253.1
  have KK253 : Keep h0 T253.heap [s1] := (Keep.refl h0 [s1]).trans K253 (allS (Or.inl (by simp)) all0)
  have hq254 : Q2n2 Z G1 G2 s1 ca kc x0 x1 h0 n0 none T253.heap _ := ⟨rfl, N253, KK253, G253_0⟩
  exact own_retV X253 hx hlk hrt (hb hby d2_9) rfl hq254 (by decide) (by decide)
def Q10n30 (Z : State) (va : Addr) (kk : ClassId) (vs : List Value) (h0 : Heap) (n0 : Nat) (v : Option Value) (h : Heap) (L : List Loc) : Prop := v = some (.int (0 : Int32)) ∧ Fr n0 L ∧ h = h0
set_option maxRecDepth 65536 in
set_option maxHeartbeats 40000000 in
theorem rm10n30 (l : Launch) (Z : State) (a0 : Array Value) (hw : OW a0 Z) (ws : List Jvm.Cond) (va : Addr) (kk : ClassId) (vs : List Value) (h0 : Heap) (n0 : Nat) (Z0 : n0 ≤ h0.size) (P0 : Arv Z h0 va kk .byte (3 : Int32) vs (.int (0 : Int32))) :
    own_Met l my10 jdk_52_method_15_code 2 (some .byte) ws (own_rm 0 0 0 0) #[(.ref va), (.int (3 : Int32))] Z h0 (Q10n30 Z va kk vs h0 n0) 0 0 := by
  refine own_body (plainFor_of_name pn_3) (fun m => by first | (simp [entryFrame, mkF, argsToLocals, Value.category]; done) | rfl) (Ls := #[.val (.ref va), .val (.int (3 : Int32))]) fun p e s m below meth c s₁ X0 hx hby hml hZ e0 hown hnm hlk hrt => ?_
  have N0 := Fr.nil n0
  have lt_P0 : @LT.lt Nat _ va (Array.size h0) := P0.lt
  refine own_ru 2 [(.ref va), (.int (3 : Int32))] X0 hx hby e10_0_2 rfl rfl ?_
  refine own_aL X0 hx hZ e0 P0 3 rfl (hb hby d10_2) rfl ?_
  refine own_ru 8 [(.int (0 : Int32))] X0 hx hby e10_3_4 rfl rfl ?_
  have hq255 : Q10n30 Z va kk vs h0 n0 (some (.int (nar .byte (0 : Int32)))) h0 _ := ⟨rfl, N0, rfl⟩
  exact own_retN X0 hx hlk (t := .byte) hrt (by simp) (hb hby d10_8) e0 hq255 (by decide) (by decide)
def Q10n31 (Z : State) (va : Addr) (kk : ClassId) (vs : List Value) (h0 : Heap) (n0 : Nat) (v : Option Value) (h : Heap) (L : List Loc) : Prop := v = some (.int (1 : Int32)) ∧ Fr n0 L ∧ h = h0
set_option maxRecDepth 65536 in
set_option maxHeartbeats 40000000 in
theorem rm10n31 (l : Launch) (Z : State) (a0 : Array Value) (hw : OW a0 Z) (ws : List Jvm.Cond) (va : Addr) (kk : ClassId) (vs : List Value) (h0 : Heap) (n0 : Nat) (Z0 : n0 ≤ h0.size) (P0 : Arv Z h0 va kk .byte (6 : Int32) vs (.int (0 : Int32))) :
    own_Met l my10 jdk_52_method_15_code 2 (some .byte) ws (own_rm 0 0 0 0) #[(.ref va), (.int (3 : Int32))] Z h0 (Q10n31 Z va kk vs h0 n0) 0 0 := by
  refine own_body (plainFor_of_name pn_3) (fun m => by first | (simp [entryFrame, mkF, argsToLocals, Value.category]; done) | rfl) (Ls := #[.val (.ref va), .val (.int (3 : Int32))]) fun p e s m below meth c s₁ X0 hx hby hml hZ e0 hown hnm hlk hrt => ?_
  have N0 := Fr.nil n0
  have lt_P0 : @LT.lt Nat _ va (Array.size h0) := P0.lt
  refine own_ru 2 [(.ref va), (.int (3 : Int32))] X0 hx hby e10_0_2 rfl rfl ?_
  refine own_aL X0 hx hZ e0 P0 3 rfl (hb hby d10_2) rfl ?_
  refine own_ru 8 [(.int (1 : Int32))] X0 hx hby e10_3_4 rfl rfl ?_
  have hq256 : Q10n31 Z va kk vs h0 n0 (some (.int (nar .byte (1 : Int32)))) h0 _ := ⟨rfl, N0, rfl⟩
  exact own_retN X0 hx hlk (t := .byte) hrt (by simp) (hb hby d10_8) e0 hq256 (by decide) (by decide)
def Q3n3 (Z : State) (G1 : Int32) (G2 : Value) (s1 : Addr) (ca : Addr) (kc : ClassId) (x0 : Int32) (x1 : Int32) (x2 : Int32) (h0 : Heap) (n0 : Nat) (v : Option Value) (h : Heap) (L : List Loc) : Prop := v = none ∧ Fr n0 L ∧ Keep h0 h [s1] ∧ own_Str3 Z h s1 x0 x1 x2
set_option maxRecDepth 65536 in
set_option maxHeartbeats 40000000 in
theorem rm3n3 (l : Launch) (Z : State) (a0 : Array Value) (hw : OW a0 Z) (ws : List Jvm.Cond) (G1 : Int32) (G2 : Value) (s1 : Addr) (ca : Addr) (kc : ClassId) (x0 : Int32) (x1 : Int32) (x2 : Int32) (h0 : Heap) (n0 : Nat) (Z0 : n0 ≤ h0.size) (OLD : Old Z n0 h0) (A : Amb Z G1 G2) (P0 : ex1 Z h0 s1) (P1 : fl2 Z h0 s1 .null) (P2 : fl0 Z h0 s1 (.int (0 : Int32))) (P3 : Arv Z h0 ca kc .char (3 : Int32) [(.int x0), (.int x1), (.int x2)] (.int (0 : Int32))) (g_s1 : n0 ≤ s1) (hx0 : own_ch x0) (hx1 : own_ch x1) (hx2 : own_ch x2) (hne : @Ne Nat s1 ca) :
    own_Met l my3 jdk_42_method_149_code 6 none ws (own_rm 4 2 9 57) #[(.ref s1), (.ref ca), (.int (0 : Int32)), (.int (3 : Int32)), .null] Z h0 (Q3n3 Z G1 G2 s1 ca kc x0 x1 x2 h0 n0) 2 9 := by
  refine own_body (plainFor_of_name pn_2) (fun m => by first | (simp [entryFrame, mkF, argsToLocals, Value.category]; done) | rfl) (Ls := #[.val (.ref s1), .val (.ref ca), .val (.int (0 : Int32)), .val (.int (3 : Int32)), .val .null, .unset]) fun p e s m below meth c s₁ X0 hx hby hml hZ e0 hown hnm hlk hrt => ?_
  have N0 := Fr.nil n0
  have lt_P0 : @LT.lt Nat _ s1 (Array.size h0) := P0.lt
  have lt_P3 : @LT.lt Nat _ ca (Array.size h0) := P3.lt
  refine own_ru 1 [(.ref s1)] X0 hx hby e3_0_1 rfl rfl ?_
  refine own_iO X0 hx hZ hown (wd16 hw) (wd17 hw) (wd18 hw) e0 4 0 (by rw [hml]; rfl) rfl (hb hby d3_1) rfl (by decide) rfl (by decide) fun T257 X257 e257 => ?_
  refine own_ru 5 [(.int (3 : Int32))] X257 hx hby e3_4_1 rfl rfl ?_
  refine own_iY 27 X257 hx (hb hby d3_5) rfl ((if0 _ _).trans (feq (by decide : ¬ ((3 : Int32) = (0 : Int32)))).2) (by decide) (by decide) ?_
  have f258 : Sta Z h0 "java/lang/String" "COMPACT_STRINGS" "Z" (.int G1) := Sta.ext OLD.2 (Amb.a0 A)
  refine own_gS X257 hx hZ hown (host := "") (Or.inl (wd41 hw)) Via.refl e257 f258 30 (hb hby d3_27) rfl fun T259 X259 e259 => ?_
  refine own_iN 33 X259 hx (hb hby d3_30) rfl ((if0 _ _).trans (feq (Amb.g1 A)).1) rfl ?_
  refine own_ru 36 [(.int (3 : Int32)), (.int (0 : Int32)), (.ref ca)] X259 hx hby e3_33_3 rfl rfl ?_
  refine own_cS X259 hx hZ hown (wd43 hw) (wd44 hw) (by decide) (wd46 hw) (wd45 hw) (rm8n3 l Z a0 hw [] G1 G2 ca kc x0 x1 x2 h0 n0 (by omega) OLD A P3 hx0 hx1 hx2) e259  [(.ref ca), (.int (0 : Int32)), (.int (3 : Int32))] [] 39 0 (hb hby d3_36) rfl (by rw [hml]; rfl) rfl rfl (lenOf pd_11 rfl) rfl (by decide) fun v260 T260 Lc260 X260 hQ260 => ?_
  obtain ⟨ob_260, rfl, N260q, K260, G260_0, U260_0⟩ := hQ260
  have N260 := Fr.app N0 N260q
  have z260 := K260.1
  have KK260 : Keep h0 T260.heap [s1] := (Keep.refl h0 [s1]).trans K260 all0
  rcases G260_0 with ⟨kw, hV, hb0, hb1, hb2⟩ | ⟨kw, hV⟩
  · have ltw : @LT.lt Nat _ ob_260 (Array.size T260.heap) := hV.lt
    refine own_rl 45 #[.val (.ref s1), .val (.ref ca), .val (.int (0 : Int32)), .val (.int (3 : Int32)), .val .null, .val (.ref ob_260)] [(.int (3 : Int32)), (.ref ob_260), (.ref s1)] X260 hx hby e3_39_4 rfl rfl ?_
    refine own_cS X260 hx hZ hown (wd50 hw) (wd51 hw) (by decide) (wd52 hw) (wd45 hw) (rm10n30 l Z a0 hw [] ob_260 kw [(.int (own_b8 x0)), (.int (own_b8 x1)), (.int (own_b8 x2))] T260.heap n0 (by omega) hV) rfl  [(.ref ob_260), (.int (3 : Int32))] [(.ref s1)] 48 1 (hb hby d3_45) rfl (by rw [hml]; rfl) rfl rfl (lenOf pd_12 rfl) rfl (by decide) fun v261 T261 Lc261 X261 hQ261 => ?_
    obtain ⟨rfl, N261q, e261⟩ := hQ261
    have N261 := Fr.app N260 N261q
    have f262 := (Exa.keep P0 K260)
    have f263 := (P2.keep K260 nin0)
    refine own_pN X261 hx hZ hown (wd26 hw) Via.refl e261 f263 f262 (Or.inr ⟨(wd22 hw), rfl, hnm⟩) (wd7 hw) (ty := .byte) (v' := (.int (0 : Int32))) (by decide) rfl (by decide) 51 rfl (hb hby d3_48) rfl fun T264 h264 X264 e264 W264 => ?_
    have F264 := Fld.same W264 f263
    have z264 := W264.size
    have KK264 : Keep h0 h264 [s1] := KK260.wr W264 (Or.inl (by simp))
    have N264 := Fr.snoc X264 N261 (by omega)
    refine own_ru 54 [(.ref ob_260), (.ref s1)] X264 hx hby e3_51_2 rfl rfl ?_
    have f265 := (Exa.wr W264 f262)
    have f266 := (Fld.other W264 (P1.keep K260 nin0) (Or.inr (slot_ne (Or.inr (wd21 hw)) (Or.inr (wd22 hw)) (by decide) (t := (.array .byte)) (t' := .byte) (by decide) (by decide))))
    refine own_pF X264 hx hZ hown (host := "") (Or.inl (wd25 hw)) Via.refl e264 f266 f265 (Or.inr ⟨(wd21 hw), rfl, hnm⟩) (wd7 hw) (ty := (.array .byte)) (by decide) rfl rfl 57 rfl (hb hby d3_54) rfl fun T267 h267 X267 e267 W267 => ?_
    have F267 := Fld.same W267 f266
    have z267 := W267.size
    have KK267 : Keep h0 h267 [s1] := KK264.wr W267 (Or.inl (by simp))
    have N267 := Fr.snoc X267 N264 (by omega)
    have f269 := (Exa.wr W267 f265)
    have f270 := (Fld.other W267 F264 (Or.inr (slot_ne (Or.inr (wd22 hw)) (Or.inr (wd21 hw)) (by decide) (t := .byte) (t' := (.array .byte)) (by decide) (by decide))))
    have f271 := ((hV.other W264 (own_ne (by omega))).other W267 (own_ne (by omega)))
    have hq268 : Q3n3 Z G1 G2 s1 ca kc x0 x1 x2 h0 n0 none h267 _ := ⟨rfl, N267, KK267, Or.inl ⟨ob_260, kw, (own_b8 x0), (own_b8 x1), (own_b8 x2), f269, F267, f270, f271, own_lOk hx0 hb0, own_lOk hx1 hb1, own_lOk hx2 hb2⟩⟩
    exact own_retV X267 hx hlk hrt (hb hby d3_57) e267 hq268 (by decide) (by decide)
  · have ltw : @LT.lt Nat _ ob_260 (Array.size T260.heap) := hV.lt
    refine own_rl 45 #[.val (.ref s1), .val (.ref ca), .val (.int (0 : Int32)), .val (.int (3 : Int32)), .val .null, .val (.ref ob_260)] [(.int (3 : Int32)), (.ref ob_260), (.ref s1)] X260 hx hby e3_39_4 rfl rfl ?_
    refine own_cS X260 hx hZ hown (wd50 hw) (wd51 hw) (by decide) (wd52 hw) (wd45 hw) (rm10n31 l Z a0 hw [] ob_260 kw [(.int (own_e0 x0)), (.int (own_e1 x0)), (.int (own_e0 x1)), (.int (own_e1 x1)), (.int (own_e0 x2)), (.int (own_e1 x2))] T260.heap n0 (by omega) hV) rfl  [(.ref ob_260), (.int (3 : Int32))] [(.ref s1)] 48 1 (hb hby d3_45) rfl (by rw [hml]; rfl) rfl rfl (lenOf pd_12 rfl) rfl (by decide) fun v272 T272 Lc272 X272 hQ272 => ?_
    obtain ⟨rfl, N272q, e272⟩ := hQ272
    have N272 := Fr.app N260 N272q
    have f273 := (Exa.keep P0 K260)
    have f274 := (P2.keep K260 nin0)
    refine own_pN X272 hx hZ hown (wd26 hw) Via.refl e272 f274 f273 (Or.inr ⟨(wd22 hw), rfl, hnm⟩) (wd7 hw) (ty := .byte) (v' := (.int (1 : Int32))) (by decide) rfl (by decide) 51 rfl (hb hby d3_48) rfl fun T275 h275 X275 e275 W275 => ?_
    have F275 := Fld.same W275 f274
    have z275 := W275.size
    have KK275 : Keep h0 h275 [s1] := KK260.wr W275 (Or.inl (by simp))
    have N275 := Fr.snoc X275 N272 (by omega)
    refine own_ru 54 [(.ref ob_260), (.ref s1)] X275 hx hby e3_51_2 rfl rfl ?_
    have f276 := (Exa.wr W275 f273)
    have f277 := (Fld.other W275 (P1.keep K260 nin0) (Or.inr (slot_ne (Or.inr (wd21 hw)) (Or.inr (wd22 hw)) (by decide) (t := (.array .byte)) (t' := .byte) (by decide) (by decide))))
    refine own_pF X275 hx hZ hown (host := "") (Or.inl (wd25 hw)) Via.refl e275 f277 f276 (Or.inr ⟨(wd21 hw), rfl, hnm⟩) (wd7 hw) (ty := (.array .byte)) (by decide) rfl rfl 57 rfl (hb hby d3_54) rfl fun T278 h278 X278 e278 W278 => ?_
    have F278 := Fld.same W278 f277
    have z278 := W278.size
    have KK278 : Keep h0 h278 [s1] := KK275.wr W278 (Or.inl (by simp))
    have N278 := Fr.snoc X278 N275 (by omega)
    have f280 := (Exa.wr W278 f276)
    have f281 := (Fld.other W278 F275 (Or.inr (slot_ne (Or.inr (wd22 hw)) (Or.inr (wd21 hw)) (by decide) (t := .byte) (t' := (.array .byte)) (by decide) (by decide))))
    have f282 := ((hV.other W275 (own_ne (by omega))).other W278 (own_ne (by omega)))
    have hq279 : Q3n3 Z G1 G2 s1 ca kc x0 x1 x2 h0 n0 none h278 _ := ⟨rfl, N278, KK278, Or.inr ⟨ob_260, kw, (own_e0 x0), (own_e0 x1), (own_e0 x2), (own_e1 x0), (own_e1 x1), (own_e1 x2), f280, F278, f281, f282, own_uOk hx0, own_uOk hx1, own_uOk hx2⟩⟩
    exact own_retV X278 hx hlk hrt (hb hby d3_57) e278 hq279 (by decide) (by decide)
def Q2n3 (Z : State) (G1 : Int32) (G2 : Value) (s1 : Addr) (ca : Addr) (kc : ClassId) (x0 : Int32) (x1 : Int32) (x2 : Int32) (h0 : Heap) (n0 : Nat) (v : Option Value) (h : Heap) (L : List Loc) : Prop := v = none ∧ Fr n0 L ∧ Keep h0 h [s1] ∧ own_Str3 Z h s1 x0 x1 x2
set_option maxRecDepth 65536 in
set_option maxHeartbeats 40000000 in
theorem rm2n3 (l : Launch) (Z : State) (a0 : Array Value) (hw : OW a0 Z) (ws : List Jvm.Cond) (G1 : Int32) (G2 : Value) (s1 : Addr) (ca : Addr) (kc : ClassId) (x0 : Int32) (x1 : Int32) (x2 : Int32) (h0 : Heap) (n0 : Nat) (Z0 : n0 ≤ h0.size) (OLD : Old Z n0 h0) (A : Amb Z G1 G2) (P0 : ex1 Z h0 s1) (P1 : fl2 Z h0 s1 .null) (P2 : fl0 Z h0 s1 (.int (0 : Int32))) (P3 : Arv Z h0 ca kc .char (3 : Int32) [(.int x0), (.int x1), (.int x2)] (.int (0 : Int32))) (g_s1 : n0 ≤ s1) (hx0 : own_ch x0) (hx1 : own_ch x1) (hx2 : own_ch x2) (hne : @Ne Nat s1 ca) :
    own_Met l my2 jdk_42_method_3_code 2 none ws (own_rm 5 2 9 74) #[(.ref s1), (.ref ca)] Z h0 (Q2n3 Z G1 G2 s1 ca kc x0 x1 x2 h0 n0) 2 9 := by
  refine own_body (plainFor_of_name pn_2) (fun m => by first | (simp [entryFrame, mkF, argsToLocals, Value.category]; done) | rfl) (Ls := #[.val (.ref s1), .val (.ref ca)]) fun p e s m below meth c s₁ X0 hx hby hml hZ e0 hown hnm hlk hrt => ?_
  have N0 := Fr.nil n0
  have lt_P0 : @LT.lt Nat _ s1 (Array.size h0) := P0.lt
  have lt_P3 : @LT.lt Nat _ ca (Array.size h0) := P3.lt
  refine own_ru 4 [(.ref ca), (.int (0 : Int32)), (.ref ca), (.ref s1)] X0 hx hby e2_0_4 rfl rfl ?_
  refine own_aL X0 hx hZ e0 P3 5 rfl (hb hby d2_4) rfl ?_
  refine own_ru 6 [.null, (.int (3 : Int32)), (.int (0 : Int32)), (.ref ca), (.ref s1)] X0 hx hby e2_5_1 rfl rfl ?_
  refine own_cN X0 hx hZ hown rfl (wd12 hw) (wd13 hw) (by decide) (wd15 hw) (wd8 hw) (rm3n3 l Z a0 hw [] G1 G2 s1 ca kc x0 x1 x2 h0 n0 (by omega) OLD A P0 P1 P2 P3 (by omega) hx0 hx1 hx2 (by first | assumption | decide | omega)) e0  [(.ref ca), (.int (0 : Int32)), (.int (3 : Int32)), .null] [] 9 0 (hb hby d2_6) rfl (by rw [hml]; rfl) rfl rfl (lenOf pd_13 rfl) rfl (by decide) fun v283 T283 Lc283 X283 hQ283 => ?_
  obtain ⟨rfl, N283q, K283, G283_0⟩ := hQ283
  have N283 := Fr.app N0 N283q
  have z283 := K283.1
  have KK283 : Keep h0 T283.heap [s1] := (Keep.refl h0 [s1]).trans K283 (allS (Or.inl (by simp)) all0)
  have hq284 : Q2n3 Z G1 G2 s1 ca kc x0 x1 x2 h0 n0 none T283.heap _ := ⟨rfl, N283, KK283, G283_0⟩
  exact own_retV X283 hx hlk hrt (hb hby d2_9) rfl hq284 (by decide) (by decide)
abbrev my34 : MethodName := (⟨"jdk/internal/util/Preconditions", "checkFromIndexSize", "(IIILjava/util/function/BiFunction;)I"⟩ : MethodName)
theorem d34_5 : decode jdk_41_method_13_code 5 = .ok (.ifCond .lt 10, 3) := by decide +kernel
theorem d34_12 : decode jdk_41_method_13_code 12 = .ok (.if_icmp .le 11, 3) := by decide +kernel
theorem d34_24 : decode jdk_41_method_13_code 24 = .ok (.ireturn, 1) := by decide +kernel
theorem e34_0_5 : own_dec jdk_41_method_13_code 0 [(.iload_n 2, 1), (.iload_n 0, 1), (.ior, 1), (.iload_n 1, 1), (.ior, 1)] = true := by decide +kernel
theorem e34_8_4 : own_dec jdk_41_method_13_code 8 [(.iload_n 1, 1), (.iload_n 2, 1), (.iload_n 0, 1), (.isub, 1)] = true := by decide +kernel
theorem e34_23_1 : own_dec jdk_41_method_13_code 23 [(.iload_n 0, 1)] = true := by decide +kernel
def Q34 (Z : State) (o1 : Int32) (k1 : Int32) (nn : Int32) (uf : Value) (h0 : Heap) (n0 : Nat) (v : Option Value) (h : Heap) (L : List Loc) : Prop := v = some (.int o1) ∧ Fr n0 L ∧ h = h0
set_option maxRecDepth 65536 in
set_option maxHeartbeats 40000000 in
theorem rm34 (l : Launch) (Z : State) (a0 : Array Value) (hw : OW a0 Z) (ws : List Jvm.Cond) (o1 : Int32) (k1 : Int32) (nn : Int32) (uf : Value) (h0 : Heap) (n0 : Nat) (Z0 : n0 ≤ h0.size) (h_uf : uf.isRef = true) (p1 : ¬ ((nn ||| o1) ||| k1) < (0 : Int32)) (p2 : ¬ (nn - o1) < k1) :
    own_Met l my34 jdk_41_method_13_code 4 (some .int) ws (own_rm 0 0 0 0) #[(.int o1), (.int k1), (.int nn), uf] Z h0 (Q34 Z o1 k1 nn uf h0 n0) 0 0 := by
  refine own_body (plainFor_of_name pn_4) (fun m => by first | (simp [entryFrame, mkF, argsToLocals, own_catR, own_catI, own_catJ, own_catN, own_cat1 h_uf]; done) | rfl) (Ls := #[.val (.int o1), .val (.int k1), .val (.int nn), .val uf]) fun p e s m below meth c s₁ X0 hx hby hml hZ e0 hown hnm hlk hrt => ?_
  have N0 := Fr.nil n0
  refine own_ru 5 [(.int ((nn ||| o1) ||| k1))] X0 hx hby e34_0_5 rfl rfl ?_
  refine own_iN 8 X0 hx (hb hby d34_5) rfl ((if0 _ _).trans (flt p1).1) rfl ?_
  refine own_ru 12 [(.int (nn - o1)), (.int k1)] X0 hx hby e34_8_4 rfl rfl ?_
  refine own_kY 23 X0 hx (hb hby d34_12) rfl (flt p2).2.2.2 (by decide) (by decide) ?_
  refine own_ru 24 [(.int o1)] X0 hx hby e34_23_1 rfl rfl ?_
  have hq285 : Q34 Z o1 k1 nn uf h0 n0 (some (.int o1)) h0 _ := ⟨rfl, N0, rfl⟩
  exact own_retI X0 hx hlk hrt (hb hby d34_24) e0 hq285 (by decide) (by decide)
abbrev my33 : MethodName := (⟨"java/lang/String", "checkBoundsOffCount", "(III)I"⟩ : MethodName)
theorem d33_3 : decode jdk_42_method_157_code 3 = .ok (.getstatic 1053, 3) := by decide +kernel
theorem d33_6 : decode jdk_42_method_157_code 6 = .ok (.invokestatic 1065, 3) := by decide +kernel
theorem d33_9 : decode jdk_42_method_157_code 9 = .ok (.ireturn, 1) := by decide +kernel
theorem e33_0_3 : own_dec jdk_42_method_157_code 0 [(.iload_n 0, 1), (.iload_n 1, 1), (.iload_n 2, 1)] = true := by decide +kernel
theorem pd_14 : parseMethodDescriptor "(IIILjava/util/function/BiFunction;)I" = some ⟨[.int, .int, .int, (.object "java/util/function/BiFunction")], some .int⟩ := by decide +kernel
def Q33 (Z : State) (G1 : Int32) (G2 : Value) (o1 : Int32) (k1 : Int32) (nn : Int32) (h0 : Heap) (n0 : Nat) (v : Option Value) (h : Heap) (L : List Loc) : Prop := v = some (.int o1) ∧ Fr n0 L ∧ h = h0
set_option maxRecDepth 65536 in
set_option maxHeartbeats 40000000 in
theorem rm33 (l : Launch) (Z : State) (a0 : Array Value) (hw : OW a0 Z) (ws : List Jvm.Cond) (G1 : Int32) (G2 : Value) (o1 : Int32) (k1 : Int32) (nn : Int32) (h0 : Heap) (n0 : Nat) (Z0 : n0 ≤ h0.size) (OLD : Old Z n0 h0) (A : Amb Z G1 G2) (p1 : ¬ ((nn ||| o1) ||| k1) < (0 : Int32)) (p2 : ¬ (nn - o1) < k1) :
    own_Met l my33 jdk_42_method_157_code 3 (some .int) ws (own_rm 1 0 0 15) #[(.int o1), (.int k1), (.int nn)] Z h0 (Q33 Z G1 G2 o1 k1 nn h0 n0) 0 0 := by
  refine own_body (plainFor_of_name pn_2) (fun m => by first | (simp [entryFrame, mkF, argsToLocals, Value.category]; done) | rfl) (Ls := #[.val (.int o1), .val (.int k1), .val (.int nn)]) fun p e s m below meth c s₁ X0 hx hby hml hZ e0 hown hnm hlk hrt => ?_
  have N0 := Fr.nil n0
  have h_G2 := Amb.g2 A
  refine own_ru 3 [(.int nn), (.int k1), (.int o1)] X0 hx hby e33_0_3 rfl rfl ?_
  have f286 : Sta Z h0 "jdk/internal/util/Preconditions" "SIOOBE_FORMATTER" "Ljava/util/function/BiFunction;" G2 := Sta.ext OLD.2 (Amb.a1 A)
  refine own_gS X0 hx hZ hown (host := "") (Or.inl (wd70 hw)) Via.refl e0 f286 6 (hb hby d33_3) rfl fun T287 X287 e287 => ?_
  refine own_cS X287 hx hZ hown (wd139 hw) (wd140 hw) (by decide) (wd141 hw) (wd71 hw) (rm34 l Z a0 hw [] o1 k1 nn G2 h0 n0 (by omega) h_G2 (by first | assumption | decide | omega) (by first | assumption | decide | omega)) e287  [(.int o1), (.int k1), (.int nn), G2] [] 9 0 (hb hby d33_6) rfl (by rw [hml]; rfl) rfl rfl (lenOf pd_14 rfl) rfl (by decide) fun v288 T288 Lc288 X288 hQ288 => ?_
  obtain ⟨rfl, N288q, e288⟩ := hQ288
  have N288 := Fr.app N0 N288q
  have hq289 : Q33 Z G1 G2 o1 k1 nn h0 n0 (some (.int o1)) h0 _ := ⟨rfl, N288, rfl⟩
  exact own_retI X288 hx hlk hrt (hb hby d33_9) e288 hq289 (by decide) (by decide)
abbrev my32 : MethodName := (⟨"java/lang/StringUTF16", "checkBoundsOffCount", "(II[B)V"⟩ : MethodName)
theorem d32_3 : decode jdk_52_method_94_code 3 = .ok (.invokestatic 48, 3) := by decide +kernel
theorem d32_6 : decode jdk_52_method_94_code 6 = .ok (.invokestatic 419, 3) := by decide +kernel
theorem d32_10 : decode jdk_52_method_94_code 10 = .ok (.return_, 1) := by decide +kernel
theorem e32_0_3 : own_dec jdk_52_method_94_code 0 [(.iload_n 0, 1), (.iload_n 1, 1), (.aload_n 2, 1)] = true := by decide +kernel
theorem e32_9_1 : own_dec jdk_52_method_94_code 9 [(.pop, 1)] = true := by decide +kernel
theorem pd_15 : parseMethodDescriptor "(III)I" = some ⟨[.int, .int, .int], some .int⟩ := by decide +kernel
def Q32 (Z : State) (G1 : Int32) (G2 : Value) (o1 : Int32) (k1 : Int32) (va : Addr) (kk : ClassId) (zz : Int32) (vs : List Value) (h0 : Heap) (n0 : Nat) (v : Option Value) (h : Heap) (L : List Loc) : Prop := v = none ∧ Fr n0 L ∧ h = h0
set_option maxRecDepth 65536 in
set_option maxHeartbeats 40000000 in
theorem rm32 (l : Launch) (Z : State) (a0 : Array Value) (hw : OW a0 Z) (ws : List Jvm.Cond) (G1 : Int32) (G2 : Value) (o1 : Int32) (k1 : Int32) (va : Addr) (kk : ClassId) (zz : Int32) (vs : List Value) (h0 : Heap) (n0 : Nat) (Z0 : n0 ≤ h0.size) (OLD : Old Z n0 h0) (A : Amb Z G1 G2) (P0 : Arv Z h0 va kk .byte zz vs (.int (0 : Int32))) (p1 : ¬ (((zz >>> ((1 : Int32) &&& 31)) ||| o1) ||| k1) < (0 : Int32)) (p2 : ¬ ((zz >>> ((1 : Int32) &&& 31)) - o1) < k1) :
    own_Met l my32 jdk_52_method_94_code 3 none ws (own_rm 2 0 0 29) #[(.int o1), (.int k1), (.ref va)] Z h0 (Q32 Z G1 G2 o1 k1 va kk zz vs h0 n0) 0 0 := by
  refine own_body (plainFor_of_name pn_3) (fun m => by first | (simp [entryFrame, mkF, argsToLocals, Value.category]; done) | rfl) (Ls := #[.val (.int o1), .val (.int k1), .val (.ref va)]) fun p e s m below meth c s₁ X0 hx hby hml hZ e0 hown hnm hlk hrt => ?_
  have N0 := Fr.nil n0
  have lt_P0 : @LT.lt Nat _ va (Array.size h0) := P0.lt
  refine own_ru 3 [(.ref va), (.int k1), (.int o1)] X0 hx hby e32_0_3 rfl rfl ?_
  refine own_cS X0 hx hZ hown (wd123 hw) (wd124 hw) (by decide) (wd125 hw) (wd45 hw) (rm29 l Z a0 hw [] va kk zz vs h0 n0 (by omega) P0) e0  [(.ref va)] [(.int k1), (.int o1)] 6 2 (hb hby d32_3) rfl (by rw [hml]; rfl) rfl rfl (lenOf pd_2 rfl) rfl (by decide) fun v290 T290 Lc290 X290 hQ290 => ?_
  obtain ⟨rfl, N290q, e290⟩ := hQ290
  have N290 := Fr.app N0 N290q
  refine own_cS X290 hx hZ hown (wd136 hw) (wd137 hw) (by decide) (wd138 hw) (wd8 hw) (rm33 l Z a0 hw [] G1 G2 o1 k1 (zz >>> ((1 : Int32) &&& 31)) h0 n0 (by omega) OLD A (by first | assumption | decide | omega) (by first | assumption | decide | omega)) e290  [(.int o1), (.int k1), (.int (zz >>> ((1 : Int32) &&& 31)))] [] 9 0 (hb hby d32_6) rfl (by rw [hml]; rfl) rfl rfl (lenOf pd_15 rfl) rfl (by decide) fun v291 T291 Lc291 X291 hQ291 => ?_
  obtain ⟨rfl, N291q, e291⟩ := hQ291
  have N291 := Fr.app N290 N291q
  refine own_ru 10 [] X291 hx hby e32_9_1 rfl rfl ?_
  have hq292 : Q32 Z G1 G2 o1 k1 va kk zz vs h0 n0 none h0 _ := ⟨rfl, N291, rfl⟩
  exact own_retV X291 hx hlk hrt (hb hby d32_10) e291 hq292 (by decide) (by decide)
abbrev my21 : MethodName := (⟨"java/lang/StringLatin1", "inflate", "([BI[CII)V"⟩ : MethodName)
theorem d21_7 : decode jdk_43_method_49_code 7 = .ok (.if_icmp .ge 26, 3) := by decide +kernel
theorem d21_20 : decode jdk_43_method_49_code 20 = .ok (.baload, 1) := by decide +kernel
theorem d21_26 : decode jdk_43_method_49_code 26 = .ok (.castore, 1) := by decide +kernel
theorem d21_30 : decode jdk_43_method_49_code 30 = .ok (.goto (-27), 3) := by decide +kernel
theorem d21_33 : decode jdk_43_method_49_code 33 = .ok (.return_, 1) := by decide +kernel
theorem e21_0_4 : own_dec jdk_43_method_49_code 0 [(.iconst 0, 1), (.istore 5, 2), (.iload 5, 2), (.iload 4, 2)] = true := by decide +kernel
theorem e21_10_6 : own_dec jdk_43_method_49_code 10 [(.aload_n 2, 1), (.iload_n 3, 1), (.iinc 3 1, 3), (.aload_n 0, 1), (.iload_n 1, 1), (.iinc 1 1, 3)] = true := by decide +kernel
theorem e21_21_3 : own_dec jdk_43_method_49_code 21 [(.sipush 255, 3), (.iand, 1), (.i2c, 1)] = true := by decide +kernel
theorem e21_27_1 : own_dec jdk_43_method_49_code 27 [(.iinc 5 1, 3)] = true := by decide +kernel
theorem e21_3_2 : own_dec jdk_43_method_49_code 3 [(.iload 5, 2), (.iload 4, 2)] = true := by decide +kernel
def Q21n1 (Z : State) (va : Addr) (ca : Addr) (kk : ClassId) (kc : ClassId) (y0 : Int32) (h0 : Heap) (n0 : Nat) (v : Option Value) (h : Heap) (L : List Loc) : Prop := v = none ∧ Fr n0 L ∧ Keep h0 h [ca] ∧ Arv Z h ca kc .char (1 : Int32) [(.int (own_lc y0))] (.int (0 : Int32))
set_option maxRecDepth 65536 in
set_option maxHeartbeats 40000000 in
theorem rm21n1 (l : Launch) (Z : State) (a0 : Array Value) (hw : OW a0 Z) (ws : List Jvm.Cond) (va : Addr) (ca : Addr) (kk : ClassId) (kc : ClassId) (y0 : Int32) (h0 : Heap) (n0 : Nat) (Z0 : n0 ≤ h0.size) (P0 : Arv Z h0 va kk .byte (1 : Int32) [(.int y0)] (.int (0 : Int32))) (P1 : Arv Z h0 ca kc .char (1 : Int32) [(.int (0 : Int32))] (.int (0 : Int32))) (g_ca : n0 ≤ ca) (hne : @Ne Nat va ca) :
    own_Met l my21 jdk_43_method_49_code 6 none ws (own_rm 0 0 0 0) #[(.ref va), (.int (0 : Int32)), (.ref ca), (.int (0 : Int32)), (.int (1 : Int32))] Z h0 (Q21n1 Z va ca kk kc y0 h0 n0) 0 0 := by
  refine own_body (plainFor_of_name pn_5) (fun m => by first | (simp [entryFrame, mkF, argsToLocals, Value.category]; done) | rfl) (Ls := #[.val (.ref va), .val (.int (0 : Int32)), .val (.ref ca), .val (.int (0 : Int32)), .val (.int (1 : Int32)), .unset]) fun p e s m below meth c s₁ X0 hx hby hml hZ e0 hown hnm hlk hrt => ?_
  have N0 := Fr.nil n0
  have lt_P0 : @LT.lt Nat _ va (Array.size h0) := P0.lt
  have lt_P1 : @LT.lt Nat _ ca (Array.size h0) := P1.lt
  refine own_rl 7 #[.val (.ref va), .val (.int (0 : Int32)), .val (.ref ca), .val (.int (0 : Int32)), .val (.int (1 : Int32)), .val (.int (0 : Int32))] [(.int (1 : Int32)), (.int (0 : Int32))] X0 hx hby e21_0_4 rfl rfl ?_
  refine own_kN 10 X0 hx (hb hby d21_7) rfl (tlt (by decide : ((0 : Int32) < (1 : Int32)))).2.1 rfl ?_
  refine own_rl 20 #[.val (.ref va), .val (.int (1 : Int32)), .val (.ref ca), .val (.int (1 : Int32)), .val (.int (1 : Int32)), .val (.int (0 : Int32))] [(.int (0 : Int32)), (.ref va), (.int (0 : Int32)), (.ref ca)] X0 hx hby e21_10_6 rfl rfl ?_
  refine own_bL X0 hx hZ e0 P0 (x := y0) 21 rfl (hb hby d21_20) rfl ⟨by decide, by decide⟩ rfl ?_
  refine own_ru 26 [(.int ((y0 &&& (255 : Int32)).toUInt32.toUInt16.toUInt32.toInt32)), (.int (0 : Int32)), (.ref ca)] X0 hx hby e21_21_3 rfl rfl ?_
  obtain ⟨cl293, Ar293, q293, S293, N293z, Hs293, G293⟩ := id P1
  have hin293 : ¬ ((0 : Int32) < 0 ∨ cl293.slots.size ≤ ((0 : Int32)).toNatClampNeg) := inb_of S293 ⟨by decide, by decide⟩
  obtain ⟨T294, h294, X294, e294, W294, st294⟩ := stC X0 hx hZ e0 Ar293 (j := (0 : Int32)) hin293 (g := (mkF m 26 #[.val (.ref va), .val (.int (1 : Int32)), .val (.ref ca), .val (.int (1 : Int32)), .val (.int (1 : Int32)), .val (.int (0 : Int32))] [(.int ((y0 &&& (255 : Int32)).toUInt32.toUInt16.toUInt32.toInt32)), (.int (0 : Int32)), (.ref ca)])) rfl rfl (hb hby d21_26)
  have V294 : Arv Z h294 ca kc .char (1 : Int32) [(.int (nar .char ((y0 &&& (255 : Int32)).toUInt32.toUInt16.toUInt32.toInt32)))] (.int (0 : Int32)) := Arv.set Ar293 q293 S293 N293z Hs293 G293 (fits_nar_char _) W294 0 rfl (Nat.le_of_ble_eq_true rfl)
  have z294 := W294.size
  have KK294 : Keep h0 h294 [ca] := (Keep.refl h0 [ca]).wr W294 (Or.inl (by simp))
  have N294 := Fr.snoc X294 N0 (by omega)
  refine own_sT 27 [] st294 ?_
  refine own_rl 30 #[.val (.ref va), .val (.int (1 : Int32)), .val (.ref ca), .val (.int (1 : Int32)), .val (.int (1 : Int32)), .val (.int (1 : Int32))] [] X294 hx hby e21_27_1 rfl rfl ?_
  refine own_go 3 X294 hx (hb hby d21_30) (by decide) (by decide) ?_
  refine own_ru 7 [(.int (1 : Int32)), (.int (1 : Int32))] X294 hx hby e21_3_2 rfl rfl ?_
  refine own_kY 33 X294 hx (hb hby d21_7) rfl (flt (by decide : ¬ ((1 : Int32) < (1 : Int32)))).2.1 (by decide) (by decide) ?_
  have hq295 : Q21n1 Z va ca kk kc y0 h0 n0 none h294 _ := ⟨rfl, N294, KK294, V294⟩
  exact own_retV X294 hx hlk hrt (hb hby d21_33) e294 hq295 (by decide) (by decide)
abbrev my20 : MethodName := (⟨"java/lang/StringLatin1", "toChars", "([B)[C"⟩ : MethodName)
theorem d20_1 : decode jdk_43_method_9_code 1 = .ok (.arraylength, 1) := by decide +kernel
theorem d20_2 : decode jdk_43_method_9_code 2 = .ok (.newarray .char, 2) := by decide +kernel
theorem d20_10 : decode jdk_43_method_9_code 10 = .ok (.arraylength, 1) := by decide +kernel
theorem d20_11 : decode jdk_43_method_9_code 11 = .ok (.invokestatic 13, 3) := by decide +kernel
theorem d20_15 : decode jdk_43_method_9_code 15 = .ok (.areturn, 1) := by decide +kernel
theorem e20_0_1 : own_dec jdk_43_method_9_code 0 [(.aload_n 0, 1)] = true := by decide +kernel
theorem e20_4_6 : own_dec jdk_43_method_9_code 4 [(.astore_n 1, 1), (.aload_n 0, 1), (.iconst 0, 1), (.aload_n 1, 1), (.iconst 0, 1), (.aload_n 0, 1)] = true := by decide +kernel
theorem e20_14_1 : own_dec jdk_43_method_9_code 14 [(.aload_n 1, 1)] = true := by decide +kernel
theorem pd_16 : parseMethodDescriptor "([BI[CII)V" = some ⟨[(.array .byte), .int, (.array .char), .int, .int], none⟩ := by decide +kernel
def Q20n1 (Z : State) (va : Addr) (kk : ClassId) (y0 : Int32) (h0 : Heap) (n0 : Nat) (v : Option Value) (h : Heap) (L : List Loc) : Prop := ∃ ob : Addr, ∃ kc : ClassId, v = some (.ref ob) ∧ Fr n0 L ∧ Keep h0 h [] ∧ Arv Z h ob kc .char (1 : Int32) [(.int (own_lc y0))] (.int (0 : Int32)) ∧ (h0.size ≤ ob)
set_option maxRecDepth 65536 in
set_option maxHeartbeats 40000000 in
theorem rm20n1 (l : Launch) (Z : State) (a0 : Array Value) (hw : OW a0 Z) (ws : List Jvm.Cond) (va : Addr) (kk : ClassId) (y0 : Int32) (h0 : Heap) (n0 : Nat) (Z0 : n0 ≤ h0.size) (P0 : Arv Z h0 va kk .byte (1 : Int32) [(.int y0)] (.int (0 : Int32))) :
    own_Met l my20 jdk_43_method_9_code 2 (some (.array .char)) ws (own_rm 1 1 1 17) #[(.ref va)] Z h0 (Q20n1 Z va kk y0 h0 n0) 1 1 := by
  refine own_body (plainFor_of_name pn_5) (fun m => by first | (simp [entryFrame, mkF, argsToLocals, Value.category]; done) | rfl) (Ls := #[.val (.ref va), .unset]) fun p e s m below meth c s₁ X0 hx hby hml hZ e0 hown hnm hlk hrt => ?_
  have N0 := Fr.nil n0
  have lt_P0 : @LT.lt Nat _ va (Array.size h0) := P0.lt
  refine own_ru 1 [(.ref va)] X0 hx hby e20_0_1 rfl rfl ?_
  refine own_aL X0 hx hZ e0 P0 2 rfl (hb hby d20_1) rfl ?_
  refine own_nP (aty := .char) X0 hx hZ (wd5 hw) e0 4 (hb hby d20_2) rfl rfl (by decide) (cap := 1) (by decide) (by decide) (by decide) (by decide) (ad := "[C") rfl fun T296 h296 k296 b296 g296 X296 e296 E296 A296 B296 => ?_
  have ll296 : @LT.lt Nat _ b296 (Array.size h296) := A296.lt
  have KK296 : Keep h0 h296 [] := (Keep.refl h0 []).ext E296
  have z296 := E296.1
  have V296 : Arv Z h296 b296 k296 .char (1 : Int32) [(.int (0 : Int32))] (.int (0 : Int32)) := (Arv.new A296 (by decide)).pad (pad_rep [] (.int (0 : Int32)) 1)
  refine own_rl 10 #[.val (.ref va), .val (.ref b296)] [(.ref va), (.int (0 : Int32)), (.ref b296), (.int (0 : Int32)), (.ref va)] X296 hx hby e20_4_6 rfl rfl ?_
  have f297 := (P0.ext E296)
  refine own_aL X296 hx hZ e296 f297 11 rfl (hb hby d20_10) rfl ?_
  refine own_cS X296 hx hZ hown (wd93 hw) (wd94 hw) (by decide) (wd95 hw) (wd65 hw) (rm21n1 l Z a0 hw [] va b296 kk k296 y0 h296 n0 (by omega) f297 V296 (by omega) (by first | assumption | decide | omega)) e296  [(.ref va), (.int (0 : Int32)), (.ref b296), (.int (0 : Int32)), (.int (1 : Int32))] [] 14 0 (hb hby d20_11) rfl (by rw [hml]; rfl) rfl rfl (lenOf pd_16 rfl) rfl (by decide) fun v298 T298 Lc298 X298 hQ298 => ?_
  obtain ⟨rfl, N298q, K298, G298_0⟩ := hQ298
  have N298 := Fr.app N0 N298q
  have z298 := K298.1
  have KK298 : Keep h0 T298.heap [] := KK296.trans K298 (allS (Or.inr (by omega)) all0)
  have lt298_0 : @LT.lt Nat _ b296 (Array.size T298.heap) := G298_0.lt
  refine own_ru 15 [(.ref b296)] X298 hx hby e20_14_1 rfl rfl ?_
  have hq299 : Q20n1 Z va kk y0 h0 n0 (some (.ref b296)) T298.heap _ := ⟨b296, k296, rfl, N298, KK298, G298_0, (by first | omega | assumption)⟩
  exact own_retR X298 hx hlk (w := (.ref b296)) rfl hrt rfl (hb hby d20_15) rfl hq299 (by decide) (by decide)
abbrev my31 : MethodName := (⟨"java/lang/StringUTF16", "getChars", "([BII[CI)V"⟩ : MethodName)
theorem d31_2 : decode jdk_52_method_26_code 2 = .ok (.if_icmp .ge 11, 3) := by decide +kernel
theorem d31_10 : decode jdk_52_method_26_code 10 = .ok (.invokestatic 173, 3) := by decide +kernel
theorem d31_19 : decode jdk_52_method_26_code 19 = .ok (.if_icmp .ge 22, 3) := by decide +kernel
theorem d31_31 : decode jdk_52_method_26_code 31 = .ok (.invokestatic 71, 3) := by decide +kernel
theorem d31_34 : decode jdk_52_method_26_code 34 = .ok (.castore, 1) := by decide +kernel
theorem d31_38 : decode jdk_52_method_26_code 38 = .ok (.goto (-22), 3) := by decide +kernel
theorem d31_41 : decode jdk_52_method_26_code 41 = .ok (.return_, 1) := by decide +kernel
theorem e31_0_2 : own_dec jdk_52_method_26_code 0 [(.iload_n 1, 1), (.iload_n 2, 1)] = true := by decide +kernel
theorem e31_5_5 : own_dec jdk_52_method_26_code 5 [(.iload_n 1, 1), (.iload_n 2, 1), (.iload_n 1, 1), (.isub, 1), (.aload_n 0, 1)] = true := by decide +kernel
theorem e31_13_4 : own_dec jdk_52_method_26_code 13 [(.iload_n 1, 1), (.istore 5, 2), (.iload 5, 2), (.iload_n 2, 1)] = true := by decide +kernel
theorem e31_22_5 : own_dec jdk_52_method_26_code 22 [(.aload_n 3, 1), (.iload 4, 2), (.iinc 4 1, 3), (.aload_n 0, 1), (.iload 5, 2)] = true := by decide +kernel
theorem e31_35_1 : own_dec jdk_52_method_26_code 35 [(.iinc 5 1, 3)] = true := by decide +kernel
theorem e31_16_2 : own_dec jdk_52_method_26_code 16 [(.iload 5, 2), (.iload_n 2, 1)] = true := by decide +kernel
theorem pd_17 : parseMethodDescriptor "(II[B)V" = some ⟨[.int, .int, (.array .byte)], none⟩ := by decide +kernel
def Q31n1 (Z : State) (G1 : Int32) (G2 : Value) (va : Addr) (ca : Addr) (kk : ClassId) (kc : ClassId) (y0 : Int32) (z0 : Int32) (h0 : Heap) (n0 : Nat) (v : Option Value) (h : Heap) (L : List Loc) : Prop := v = none ∧ Fr n0 L ∧ Keep h0 h [ca] ∧ Arv Z h ca kc .char (1 : Int32) [(.int (nar .char (own_u y0 z0)))] (.int (0 : Int32))
set_option maxRecDepth 65536 in
set_option maxHeartbeats 40000000 in
theorem rm31n1 (l : Launch) (Z : State) (a0 : Array Value) (hw : OW a0 Z) (ws : List Jvm.Cond) (G1 : Int32) (G2 : Value) (va : Addr) (ca : Addr) (kk : ClassId) (kc : ClassId) (y0 : Int32) (z0 : Int32) (h0 : Heap) (n0 : Nat) (Z0 : n0 ≤ h0.size) (OLD : Old Z n0 h0) (A : Amb Z G1 G2) (P0 : Arv Z h0 va kk .byte (2 : Int32) [(.int y0), (.int z0)] (.int (0 : Int32))) (P1 : Arv Z h0 ca kc .char (1 : Int32) [(.int (0 : Int32))] (.int (0 : Int32))) (g_ca : n0 ≤ ca) (hne : @Ne Nat va ca) :
    own_Met l my31 jdk_52_method_26_code 6 none ws (own_rm 3 0 0 43) #[(.ref va), (.int (0 : Int32)), (.int (1 : Int32)), (.ref ca), (.int (0 : Int32))] Z h0 (Q31n1 Z G1 G2 va ca kk kc y0 z0 h0 n0) 0 0 := by
  refine own_body (plainFor_of_name pn_3) (fun m => by first | (simp [entryFrame, mkF, argsToLocals, Value.category]; done) | rfl) (Ls := #[.val (.ref va), .val (.int (0 : Int32)), .val (.int (1 : Int32)), .val (.ref ca), .val (.int (0 : Int32)), .unset]) fun p e s m below meth c s₁ X0 hx hby hml hZ e0 hown hnm hlk hrt => ?_
  have N0 := Fr.nil n0
  have lt_P0 : @LT.lt Nat _ va (Array.size h0) := P0.lt
  have lt_P1 : @LT.lt Nat _ ca (Array.size h0) := P1.lt
  refine own_ru 2 [(.int (1 : Int32)), (.int (0 : Int32))] X0 hx hby e31_0_2 rfl rfl ?_
  refine own_kN 5 X0 hx (hb hby d31_2) rfl (tlt (by decide : ((0 : Int32) < (1 : Int32)))).2.1 rfl ?_
  refine own_ru 10 [(.ref va), (.int (1 : Int32)), (.int (0 : Int32))] X0 hx hby e31_5_5 rfl rfl ?_
  refine own_cS X0 hx hZ hown (wd133 hw) (wd134 hw) (by decide) (wd135 hw) (wd45 hw) (rm32 l Z a0 hw [] G1 G2 (0 : Int32) (1 : Int32) va kk (2 : Int32) [(.int y0), (.int z0)] h0 n0 (by omega) OLD A P0 (by decide) (by decide)) e0  [(.int (0 : Int32)), (.int (1 : Int32)), (.ref va)] [] 13 0 (hb hby d31_10) rfl (by rw [hml]; rfl) rfl rfl (lenOf pd_17 rfl) rfl (by decide) fun v300 T300 Lc300 X300 hQ300 => ?_
  obtain ⟨rfl, N300q, e300⟩ := hQ300
  have N300 := Fr.app N0 N300q
  refine own_rl 19 #[.val (.ref va), .val (.int (0 : Int32)), .val (.int (1 : Int32)), .val (.ref ca), .val (.int (0 : Int32)), .val (.int (0 : Int32))] [(.int (1 : Int32)), (.int (0 : Int32))] X300 hx hby e31_13_4 rfl rfl ?_
  refine own_kN 22 X300 hx (hb hby d31_19) rfl (tlt (by decide : ((0 : Int32) < (1 : Int32)))).2.1 rfl ?_
  refine own_rl 31 #[.val (.ref va), .val (.int (0 : Int32)), .val (.int (1 : Int32)), .val (.ref ca), .val (.int (1 : Int32)), .val (.int (0 : Int32))] [(.int (0 : Int32)), (.ref va), (.int (0 : Int32)), (.ref ca)] X300 hx hby e31_22_5 rfl rfl ?_
  refine own_cS X300 hx hZ hown (wd114 hw) (wd115 hw) (by decide) (wd116 hw) (wd45 hw) (rm26 l Z a0 hw [] G1 G2 va (0 : Int32) kk (2 : Int32) [(.int y0), (.int z0)] y0 z0 h0 n0 (by omega) OLD A P0 ⟨by decide, by decide⟩ ⟨by decide, by decide⟩ rfl rfl) e300  [(.ref va), (.int (0 : Int32))] [(.int (0 : Int32)), (.ref ca)] 34 2 (hb hby d31_31) rfl (by rw [hml]; rfl) rfl rfl (lenOf pd_5 rfl) rfl (by decide) fun v301 T301 Lc301 X301 hQ301 => ?_
  obtain ⟨rfl, N301q, e301⟩ := hQ301
  have N301 := Fr.app N300 N301q
  obtain ⟨cl302, Ar302, q302, S302, N302z, Hs302, G302⟩ := id P1
  have hin302 : ¬ ((0 : Int32) < 0 ∨ cl302.slots.size ≤ ((0 : Int32)).toNatClampNeg) := inb_of S302 ⟨by decide, by decide⟩
  obtain ⟨T303, h303, X303, e303, W303, st303⟩ := stC X301 hx hZ e301 Ar302 (j := (0 : Int32)) hin302 (g := (mkF m 34 #[.val (.ref va), .val (.int (0 : Int32)), .val (.int (1 : Int32)), .val (.ref ca), .val (.int (1 : Int32)), .val (.int (0 : Int32))] [(.int (own_u y0 z0)), (.int (0 : Int32)), (.ref ca)])) rfl rfl (hb hby d31_34)
  have V303 : Arv Z h303 ca kc .char (1 : Int32) [(.int (nar .char (own_u y0 z0)))] (.int (0 : Int32)) := Arv.set Ar302 q302 S302 N302z Hs302 G302 (fits_nar_char _) W303 0 rfl (Nat.le_of_ble_eq_true rfl)
  have z303 := W303.size
  have KK303 : Keep h0 h303 [ca] := (Keep.refl h0 [ca]).wr W303 (Or.inl (by simp))
  have N303 := Fr.snoc X303 N301 (by omega)
  refine own_sT 35 [] st303 ?_
  refine own_rl 38 #[.val (.ref va), .val (.int (0 : Int32)), .val (.int (1 : Int32)), .val (.ref ca), .val (.int (1 : Int32)), .val (.int (1 : Int32))] [] X303 hx hby e31_35_1 rfl rfl ?_
  refine own_go 16 X303 hx (hb hby d31_38) (by decide) (by decide) ?_
  refine own_ru 19 [(.int (1 : Int32)), (.int (1 : Int32))] X303 hx hby e31_16_2 rfl rfl ?_
  refine own_kY 41 X303 hx (hb hby d31_19) rfl (flt (by decide : ¬ ((1 : Int32) < (1 : Int32)))).2.1 (by decide) (by decide) ?_
  have hq304 : Q31n1 Z G1 G2 va ca kk kc y0 z0 h0 n0 none h303 _ := ⟨rfl, N303, KK303, V303⟩
  exact own_retV X303 hx hlk hrt (hb hby d31_41) e303 hq304 (by decide) (by decide)
abbrev my30 : MethodName := (⟨"java/lang/StringUTF16", "toChars", "([B)[C"⟩ : MethodName)
theorem d30_1 : decode jdk_52_method_13_code 1 = .ok (.arraylength, 1) := by decide +kernel
theorem d30_4 : decode jdk_52_method_13_code 4 = .ok (.newarray .char, 2) := by decide +kernel
theorem d30_10 : decode jdk_52_method_13_code 10 = .ok (.arraylength, 1) := by decide +kernel
theorem d30_13 : decode jdk_52_method_13_code 13 = .ok (.invokestatic 103, 3) := by decide +kernel
theorem d30_17 : decode jdk_52_method_13_code 17 = .ok (.areturn, 1) := by decide +kernel
theorem e30_0_1 : own_dec jdk_52_method_13_code 0 [(.aload_n 0, 1)] = true := by decide +kernel
theorem e30_2_2 : own_dec jdk_52_method_13_code 2 [(.iconst 1, 1), (.ishr, 1)] = true := by decide +kernel
theorem e30_6_4 : own_dec jdk_52_method_13_code 6 [(.astore_n 1, 1), (.aload_n 0, 1), (.iconst 0, 1), (.aload_n 1, 1)] = true := by decide +kernel
theorem e30_11_2 : own_dec jdk_52_method_13_code 11 [(.aload_n 1, 1), (.iconst 0, 1)] = true := by decide +kernel
theorem e30_16_1 : own_dec jdk_52_method_13_code 16 [(.aload_n 1, 1)] = true := by decide +kernel
theorem pd_18 : parseMethodDescriptor "([BII[CI)V" = some ⟨[(.array .byte), .int, .int, (.array .char), .int], none⟩ := by decide +kernel
def Q30n1 (Z : State) (G1 : Int32) (G2 : Value) (va : Addr) (kk : ClassId) (y0 : Int32) (z0 : Int32) (h0 : Heap) (n0 : Nat) (v : Option Value) (h : Heap) (L : List Loc) : Prop := ∃ ob : Addr, ∃ kc : ClassId, v = some (.ref ob) ∧ Fr n0 L ∧ Keep h0 h [] ∧ Arv Z h ob kc .char (1 : Int32) [(.int (nar .char (own_u y0 z0)))] (.int (0 : Int32)) ∧ (h0.size ≤ ob)
set_option maxRecDepth 65536 in
set_option maxHeartbeats 40000000 in
theorem rm30n1 (l : Launch) (Z : State) (a0 : Array Value) (hw : OW a0 Z) (ws : List Jvm.Cond) (G1 : Int32) (G2 : Value) (va : Addr) (kk : ClassId) (y0 : Int32) (z0 : Int32) (h0 : Heap) (n0 : Nat) (Z0 : n0 ≤ h0.size) (OLD : Old Z n0 h0) (A : Amb Z G1 G2) (P0 : Arv Z h0 va kk .byte (2 : Int32) [(.int y0), (.int z0)] (.int (0 : Int32))) :
    own_Met l my30 jdk_52_method_13_code 2 (some (.array .char)) ws (own_rm 4 1 1 60) #[(.ref va)] Z h0 (Q30n1 Z G1 G2 va kk y0 z0 h0 n0) 1 1 := by
  refine own_body (plainFor_of_name pn_3) (fun m => by first | (simp [entryFrame, mkF, argsToLocals, Value.category]; done) | rfl) (Ls := #[.val (.ref va), .unset]) fun p e s m below meth c s₁ X0 hx hby hml hZ e0 hown hnm hlk hrt => ?_
  have N0 := Fr.nil n0
  have lt_P0 : @LT.lt Nat _ va (Array.size h0) := P0.lt
  refine own_ru 1 [(.ref va)] X0 hx hby e30_0_1 rfl rfl ?_
  refine own_aL X0 hx hZ e0 P0 2 rfl (hb hby d30_1) rfl ?_
  refine own_ru 4 [(.int (1 : Int32))] X0 hx hby e30_2_2 rfl rfl ?_
  refine own_nP (aty := .char) X0 hx hZ (wd5 hw) e0 6 (hb hby d30_4) rfl rfl (by decide) (cap := 1) (by decide) (by decide) (by decide) (by decide) (ad := "[C") rfl fun T305 h305 k305 b305 g305 X305 e305 E305 A305 B305 => ?_
  have ll305 : @LT.lt Nat _ b305 (Array.size h305) := A305.lt
  have KK305 : Keep h0 h305 [] := (Keep.refl h0 []).ext E305
  have z305 := E305.1
  have V305 : Arv Z h305 b305 k305 .char (1 : Int32) [(.int (0 : Int32))] (.int (0 : Int32)) := (Arv.new A305 (by decide)).pad (pad_rep [] (.int (0 : Int32)) 1)
  refine own_rl 10 #[.val (.ref va), .val (.ref b305)] [(.ref b305), (.int (0 : Int32)), (.ref va)] X305 hx hby e30_6_4 rfl rfl ?_
  refine own_aL X305 hx hZ e305 V305 11 rfl (hb hby d30_10) rfl ?_
  refine own_ru 13 [(.int (0 : Int32)), (.ref b305), (.int (1 : Int32)), (.int (0 : Int32)), (.ref va)] X305 hx hby e30_11_2 rfl rfl ?_
  have f306 := (OLD.ext E305)
  have f307 := (P0.ext E305)
  refine own_cS X305 hx hZ hown (wd130 hw) (wd131 hw) (by decide) (wd132 hw) (wd45 hw) (rm31n1 l Z a0 hw [] G1 G2 va b305 kk k305 y0 z0 h305 n0 (by omega) f306 A f307 V305 (by omega) (by first | assumption | decide | omega)) e305  [(.ref va), (.int (0 : Int32)), (.int (1 : Int32)), (.ref b305), (.int (0 : Int32))] [] 16 0 (hb hby d30_13) rfl (by rw [hml]; rfl) rfl rfl (lenOf pd_18 rfl) rfl (by decide) fun v308 T308 Lc308 X308 hQ308 => ?_
  obtain ⟨rfl, N308q, K308, G308_0⟩ := hQ308
  have N308 := Fr.app N0 N308q
  have z308 := K308.1
  have KK308 : Keep h0 T308.heap [] := KK305.trans K308 (allS (Or.inr (by omega)) all0)
  have lt308_0 : @LT.lt Nat _ b305 (Array.size T308.heap) := G308_0.lt
  refine own_ru 17 [(.ref b305)] X308 hx hby e30_16_1 rfl rfl ?_
  have hq309 : Q30n1 Z G1 G2 va kk y0 z0 h0 n0 (some (.ref b305)) T308.heap _ := ⟨b305, k305, rfl, N308, KK308, G308_0, (by first | omega | assumption)⟩
  exact own_retR X308 hx hlk (w := (.ref b305)) rfl hrt rfl (hb hby d30_17) rfl hq309 (by decide) (by decide)
abbrev my19 : MethodName := (⟨"java/lang/String", "toCharArray", "()[C"⟩ : MethodName)
theorem d19_1 : decode jdk_42_method_129_code 1 = .ok (.invokevirtual 492, 3) := by decide +kernel
theorem d19_4 : decode jdk_42_method_129_code 4 = .ok (.ifCond .eq 13, 3) := by decide +kernel
theorem d19_8 : decode jdk_42_method_129_code 8 = .ok (.getfield 9, 3) := by decide +kernel
theorem d19_11 : decode jdk_42_method_129_code 11 = .ok (.invokestatic 299, 3) := by decide +kernel
theorem d19_14 : decode jdk_42_method_129_code 14 = .ok (.goto 10, 3) := by decide +kernel
theorem d19_24 : decode jdk_42_method_129_code 24 = .ok (.areturn, 1) := by decide +kernel
theorem e19_0_1 : own_dec jdk_42_method_129_code 0 [(.aload_n 0, 1)] = true := by decide +kernel
theorem e19_7_1 : own_dec jdk_42_method_129_code 7 [(.aload_n 0, 1)] = true := by decide +kernel
theorem pd_19 : parseMethodDescriptor "([B)[C" = some ⟨[(.array .byte)], some (.array .char)⟩ := by decide +kernel
def Q19n10 (Z : State) (G1 : Int32) (G2 : Value) (s1 : Addr) (ta : Addr) (kt : ClassId) (y0 : Int32) (h0 : Heap) (n0 : Nat) (v : Option Value) (h : Heap) (L : List Loc) : Prop := ∃ ob : Addr, ∃ kc : ClassId, v = some (.ref ob) ∧ Fr n0 L ∧ Keep h0 h [] ∧ Arv Z h ob kc .char (1 : Int32) [(.int (own_lc y0))] (.int (0 : Int32)) ∧ (h0.size ≤ ob)
set_option maxRecDepth 65536 in
set_option maxHeartbeats 40000000 in
theorem rm19n10 (l : Launch) (Z : State) (a0 : Array Value) (hw : OW a0 Z) (ws : List Jvm.Cond) (G1 : Int32) (G2 : Value) (s1 : Addr) (ta : Addr) (kt : ClassId) (y0 : Int32) (h0 : Heap) (n0 : Nat) (Z0 : n0 ≤ h0.size) (OLD : Old Z n0 h0) (A : Amb Z G1 G2) (P0 : ex1 Z h0 s1) (P1 : fl2 Z h0 s1 (.ref ta)) (P2 : fl0 Z h0 s1 (.int (0 : Int32))) (P3 : Arv Z h0 ta kt .byte (1 : Int32) [(.int y0)] (.int (0 : Int32))) :
    own_Met l my19 jdk_42_method_129_code 1 (some (.array .char)) ws (own_rm 2 1 1 30) #[(.ref s1)] Z h0 (Q19n10 Z G1 G2 s1 ta kt y0 h0 n0) 1 1 := by
  refine own_body (plainFor_of_name pn_2) (fun m => by first | (simp [entryFrame, mkF, argsToLocals, Value.category]; done) | rfl) (Ls := #[.val (.ref s1)]) fun p e s m below meth c s₁ X0 hx hby hml hZ e0 hown hnm hlk hrt => ?_
  have N0 := Fr.nil n0
  have lt_P0 : @LT.lt Nat _ s1 (Array.size h0) := P0.lt
  have lt_P3 : @LT.lt Nat _ ta (Array.size h0) := P3.lt
  refine own_ru 1 [(.ref s1)] X0 hx hby e19_0_1 rfl rfl ?_
  refine own_cV X0 hx hZ hown (wd58 hw) (wd59 hw) (notFace_of_selects (args := #[]) (mvT hZ (wd61 hw))) (wd61 hw) (wd60 hw) (by decide) (wd62 hw) (wd8 hw) (rm12d0 l Z a0 hw [] G1 G2 s1 h0 n0 (by omega) OLD A P2) e0 P0 [] [] 4 0 (hb hby d19_1) rfl (by rw [hml]; rfl) rfl rfl (lenOf pd_6 rfl) rfl (by decide) fun v310 T310 Lc310 X310 hQ310 => ?_
  obtain ⟨rfl, N310q, e310⟩ := hQ310
  have N310 := Fr.app N0 N310q
  refine own_iN 7 X310 hx (hb hby d19_4) rfl ((if0 _ _).trans (feq (by decide : ¬ ((1 : Int32) = (0 : Int32)))).1) rfl ?_
  refine own_ru 8 [(.ref s1)] X310 hx hby e19_7_1 rfl rfl ?_
  refine own_gF X310 hx hZ hown (host := "") (Or.inl (wd25 hw)) Via.refl e310 P1 11 rfl (hb hby d19_8) rfl fun T311 X311 e311 => ?_
  refine own_cS X311 hx hZ hown (wd90 hw) (wd91 hw) (by decide) (wd92 hw) (wd65 hw) (rm20n1 l Z a0 hw [] ta kt y0 h0 n0 (by omega) P3) e311  [(.ref ta)] [] 14 0 (hb hby d19_11) rfl (by rw [hml]; rfl) rfl rfl (lenOf pd_19 rfl) rfl (by decide) fun v312 T312 Lc312 X312 hQ312 => ?_
  obtain ⟨ob_312, kc_312, rfl, N312q, K312, G312_0, U312_0⟩ := hQ312
  have N312 := Fr.app N310 N312q
  have z312 := K312.1
  have KK312 : Keep h0 T312.heap [] := (Keep.refl h0 []).trans K312 all0
  have lt312_0 : @LT.lt Nat _ ob_312 (Array.size T312.heap) := G312_0.lt
  refine own_go 24 X312 hx (hb hby d19_14) (by decide) (by decide) ?_
  have hq313 : Q19n10 Z G1 G2 s1 ta kt y0 h0 n0 (some (.ref ob_312)) T312.heap _ := ⟨ob_312, kc_312, rfl, N312, KK312, G312_0, (by first | omega | assumption)⟩
  exact own_retR X312 hx hlk (w := (.ref ob_312)) rfl hrt rfl (hb hby d19_24) rfl hq313 (by decide) (by decide)
theorem d19_18 : decode jdk_42_method_129_code 18 = .ok (.getfield 9, 3) := by decide +kernel
theorem d19_21 : decode jdk_42_method_129_code 21 = .ok (.invokestatic 303, 3) := by decide +kernel
theorem e19_17_1 : own_dec jdk_42_method_129_code 17 [(.aload_n 0, 1)] = true := by decide +kernel
def Q19n11 (Z : State) (G1 : Int32) (G2 : Value) (s1 : Addr) (ta : Addr) (kt : ClassId) (y0 : Int32) (z0 : Int32) (h0 : Heap) (n0 : Nat) (v : Option Value) (h : Heap) (L : List Loc) : Prop := ∃ ob : Addr, ∃ kc : ClassId, v = some (.ref ob) ∧ Fr n0 L ∧ Keep h0 h [] ∧ Arv Z h ob kc .char (1 : Int32) [(.int (nar .char (own_u y0 z0)))] (.int (0 : Int32)) ∧ (h0.size ≤ ob)
set_option maxRecDepth 65536 in
set_option maxHeartbeats 40000000 in
theorem rm19n11 (l : Launch) (Z : State) (a0 : Array Value) (hw : OW a0 Z) (ws : List Jvm.Cond) (G1 : Int32) (G2 : Value) (s1 : Addr) (ta : Addr) (kt : ClassId) (y0 : Int32) (z0 : Int32) (h0 : Heap) (n0 : Nat) (Z0 : n0 ≤ h0.size) (OLD : Old Z n0 h0) (A : Amb Z G1 G2) (P0 : ex1 Z h0 s1) (P1 : fl2 Z h0 s1 (.ref ta)) (P2 : fl0 Z h0 s1 (.int (1 : Int32))) (P3 : Arv Z h0 ta kt .byte (2 : Int32) [(.int y0), (.int z0)] (.int (0 : Int32))) :
    own_Met l my19 jdk_42_method_129_code 1 (some (.array .char)) ws (own_rm 5 1 1 73) #[(.ref s1)] Z h0 (Q19n11 Z G1 G2 s1 ta kt y0 z0 h0 n0) 1 1 := by
  refine own_body (plainFor_of_name pn_2) (fun m => by first | (simp [entryFrame, mkF, argsToLocals, Value.category]; done) | rfl) (Ls := #[.val (.ref s1)]) fun p e s m below meth c s₁ X0 hx hby hml hZ e0 hown hnm hlk hrt => ?_
  have N0 := Fr.nil n0
  have lt_P0 : @LT.lt Nat _ s1 (Array.size h0) := P0.lt
  have lt_P3 : @LT.lt Nat _ ta (Array.size h0) := P3.lt
  refine own_ru 1 [(.ref s1)] X0 hx hby e19_0_1 rfl rfl ?_
  refine own_cV X0 hx hZ hown (wd58 hw) (wd59 hw) (notFace_of_selects (args := #[]) (mvT hZ (wd61 hw))) (wd61 hw) (wd60 hw) (by decide) (wd62 hw) (wd8 hw) (rm12d1 l Z a0 hw [] G1 G2 s1 h0 n0 (by omega) OLD A P2) e0 P0 [] [] 4 0 (hb hby d19_1) rfl (by rw [hml]; rfl) rfl rfl (lenOf pd_6 rfl) rfl (by decide) fun v314 T314 Lc314 X314 hQ314 => ?_
  obtain ⟨rfl, N314q, e314⟩ := hQ314
  have N314 := Fr.app N0 N314q
  refine own_iY 17 X314 hx (hb hby d19_4) rfl ((if0 _ _).trans (teq (by decide : ((0 : Int32) = (0 : Int32)))).1) (by decide) (by decide) ?_
  refine own_ru 18 [(.ref s1)] X314 hx hby e19_17_1 rfl rfl ?_
  refine own_gF X314 hx hZ hown (host := "") (Or.inl (wd25 hw)) Via.refl e314 P1 21 rfl (hb hby d19_18) rfl fun T315 X315 e315 => ?_
  refine own_cS X315 hx hZ hown (wd127 hw) (wd128 hw) (by decide) (wd129 hw) (wd45 hw) (rm30n1 l Z a0 hw [] G1 G2 ta kt y0 z0 h0 n0 (by omega) OLD A P3) e315  [(.ref ta)] [] 24 0 (hb hby d19_21) rfl (by rw [hml]; rfl) rfl rfl (lenOf pd_19 rfl) rfl (by decide) fun v316 T316 Lc316 X316 hQ316 => ?_
  obtain ⟨ob_316, kc_316, rfl, N316q, K316, G316_0, U316_0⟩ := hQ316
  have N316 := Fr.app N314 N316q
  have z316 := K316.1
  have KK316 : Keep h0 T316.heap [] := (Keep.refl h0 []).trans K316 all0
  have lt316_0 : @LT.lt Nat _ ob_316 (Array.size T316.heap) := G316_0.lt
  have hq317 : Q19n11 Z G1 G2 s1 ta kt y0 z0 h0 n0 (some (.ref ob_316)) T316.heap _ := ⟨ob_316, kc_316, rfl, N316, KK316, G316_0, (by first | omega | assumption)⟩
  exact own_retR X316 hx hlk (w := (.ref ob_316)) rfl hrt rfl (hb hby d19_24) rfl hq317 (by decide) (by decide)
def Q21n2 (Z : State) (va : Addr) (ca : Addr) (kk : ClassId) (kc : ClassId) (y0 : Int32) (y1 : Int32) (h0 : Heap) (n0 : Nat) (v : Option Value) (h : Heap) (L : List Loc) : Prop := v = none ∧ Fr n0 L ∧ Keep h0 h [ca] ∧ Arv Z h ca kc .char (2 : Int32) [(.int (own_lc y0)), (.int (own_lc y1))] (.int (0 : Int32))
set_option maxRecDepth 65536 in
set_option maxHeartbeats 40000000 in
theorem rm21n2 (l : Launch) (Z : State) (a0 : Array Value) (hw : OW a0 Z) (ws : List Jvm.Cond) (va : Addr) (ca : Addr) (kk : ClassId) (kc : ClassId) (y0 : Int32) (y1 : Int32) (h0 : Heap) (n0 : Nat) (Z0 : n0 ≤ h0.size) (P0 : Arv Z h0 va kk .byte (2 : Int32) [(.int y0), (.int y1)] (.int (0 : Int32))) (P1 : Arv Z h0 ca kc .char (2 : Int32) [(.int (0 : Int32)), (.int (0 : Int32))] (.int (0 : Int32))) (g_ca : n0 ≤ ca) (hne : @Ne Nat va ca) :
    own_Met l my21 jdk_43_method_49_code 6 none ws (own_rm 0 0 0 0) #[(.ref va), (.int (0 : Int32)), (.ref ca), (.int (0 : Int32)), (.int (2 : Int32))] Z h0 (Q21n2 Z va ca kk kc y0 y1 h0 n0) 0 0 := by
  refine own_body (plainFor_of_name pn_5) (fun m => by first | (simp [entryFrame, mkF, argsToLocals, Value.category]; done) | rfl) (Ls := #[.val (.ref va), .val (.int (0 : Int32)), .val (.ref ca), .val (.int (0 : Int32)), .val (.int (2 : Int32)), .unset]) fun p e s m below meth c s₁ X0 hx hby hml hZ e0 hown hnm hlk hrt => ?_
  have N0 := Fr.nil n0
  have lt_P0 : @LT.lt Nat _ va (Array.size h0) := P0.lt
  have lt_P1 : @LT.lt Nat _ ca (Array.size h0) := P1.lt
  refine own_rl 7 #[.val (.ref va), .val (.int (0 : Int32)), .val (.ref ca), .val (.int (0 : Int32)), .val (.int (2 : Int32)), .val (.int (0 : Int32))] [(.int (2 : Int32)), (.int (0 : Int32))] X0 hx hby e21_0_4 rfl rfl ?_
  refine own_kN 10 X0 hx (hb hby d21_7) rfl (tlt (by decide : ((0 : Int32) < (2 : Int32)))).2.1 rfl ?_
  refine own_rl 20 #[.val (.ref va), .val (.int (1 : Int32)), .val (.ref ca), .val (.int (1 : Int32)), .val (.int (2 : Int32)), .val (.int (0 : Int32))] [(.int (0 : Int32)), (.ref va), (.int (0 : Int32)), (.ref ca)] X0 hx hby e21_10_6 rfl rfl ?_
  refine own_bL X0 hx hZ e0 P0 (x := y0) 21 rfl (hb hby d21_20) rfl ⟨by decide, by decide⟩ rfl ?_
  refine own_ru 26 [(.int ((y0 &&& (255 : Int32)).toUInt32.toUInt16.toUInt32.toInt32)), (.int (0 : Int32)), (.ref ca)] X0 hx hby e21_21_3 rfl rfl ?_
  obtain ⟨cl318, Ar318, q318, S318, N318z, Hs318, G318⟩ := id P1
  have hin318 : ¬ ((0 : Int32) < 0 ∨ cl318.slots.size ≤ ((0 : Int32)).toNatClampNeg) := inb_of S318 ⟨by decide, by decide⟩
  obtain ⟨T319, h319, X319, e319, W319, st319⟩ := stC X0 hx hZ e0 Ar318 (j := (0 : Int32)) hin318 (g := (mkF m 26 #[.val (.ref va), .val (.int (1 : Int32)), .val (.ref ca), .val (.int (1 : Int32)), .val (.int (2 : Int32)), .val (.int (0 : Int32))] [(.int ((y0 &&& (255 : Int32)).toUInt32.toUInt16.toUInt32.toInt32)), (.int (0 : Int32)), (.ref ca)])) rfl rfl (hb hby d21_26)
  have V319 : Arv Z h319 ca kc .char (2 : Int32) [(.int (nar .char ((y0 &&& (255 : Int32)).toUInt32.toUInt16.toUInt32.toInt32))), (.int (0 : Int32))] (.int (0 : Int32)) := Arv.set Ar318 q318 S318 N318z Hs318 G318 (fits_nar_char _) W319 0 rfl (Nat.le_of_ble_eq_true rfl)
  have z319 := W319.size
  have KK319 : Keep h0 h319 [ca] := (Keep.refl h0 [ca]).wr W319 (Or.inl (by simp))
  have N319 := Fr.snoc X319 N0 (by omega)
  refine own_sT 27 [] st319 ?_
  refine own_rl 30 #[.val (.ref va), .val (.int (1 : Int32)), .val (.ref ca), .val (.int (1 : Int32)), .val (.int (2 : Int32)), .val (.int (1 : Int32))] [] X319 hx hby e21_27_1 rfl rfl ?_
  refine own_go 3 X319 hx (hb hby d21_30) (by decide) (by decide) ?_
  refine own_ru 7 [(.int (2 : Int32)), (.int (1 : Int32))] X319 hx hby e21_3_2 rfl rfl ?_
  refine own_kN 10 X319 hx (hb hby d21_7) rfl (tlt (by decide : ((1 : Int32) < (2 : Int32)))).2.1 rfl ?_
  refine own_rl 20 #[.val (.ref va), .val (.int (2 : Int32)), .val (.ref ca), .val (.int (2 : Int32)), .val (.int (2 : Int32)), .val (.int (1 : Int32))] [(.int (1 : Int32)), (.ref va), (.int (1 : Int32)), (.ref ca)] X319 hx hby e21_10_6 rfl rfl ?_
  have f320 := (P0.other W319 (own_ne (by omega)))
  refine own_bL X319 hx hZ e319 f320 (x := y1) 21 rfl (hb hby d21_20) rfl ⟨by decide, by decide⟩ rfl ?_
  refine own_ru 26 [(.int ((y1 &&& (255 : Int32)).toUInt32.toUInt16.toUInt32.toInt32)), (.int (1 : Int32)), (.ref ca)] X319 hx hby e21_21_3 rfl rfl ?_
  obtain ⟨cl321, Ar321, q321, S321, N321z, Hs321, G321⟩ := id V319
  have hin321 : ¬ ((1 : Int32) < 0 ∨ cl321.slots.size ≤ ((1 : Int32)).toNatClampNeg) := inb_of S321 ⟨by decide, by decide⟩
  obtain ⟨T322, h322, X322, e322, W322, st322⟩ := stC X319 hx hZ e319 Ar321 (j := (1 : Int32)) hin321 (g := (mkF m 26 #[.val (.ref va), .val (.int (2 : Int32)), .val (.ref ca), .val (.int (2 : Int32)), .val (.int (2 : Int32)), .val (.int (1 : Int32))] [(.int ((y1 &&& (255 : Int32)).toUInt32.toUInt16.toUInt32.toInt32)), (.int (1 : Int32)), (.ref ca)])) rfl rfl (hb hby d21_26)
  have V322 : Arv Z h322 ca kc .char (2 : Int32) [(.int (nar .char ((y0 &&& (255 : Int32)).toUInt32.toUInt16.toUInt32.toInt32))), (.int (nar .char ((y1 &&& (255 : Int32)).toUInt32.toUInt16.toUInt32.toInt32)))] (.int (0 : Int32)) := Arv.set Ar321 q321 S321 N321z Hs321 G321 (fits_nar_char _) W322 1 rfl (Nat.le_of_ble_eq_true rfl)
  have z322 := W322.size
  have KK322 : Keep h0 h322 [ca] := KK319.wr W322 (Or.inl (by simp))
  have N322 := Fr.snoc X322 N319 (by omega)
  refine own_sT 27 [] st322 ?_
  refine own_rl 30 #[.val (.ref va), .val (.int (2 : Int32)), .val (.ref ca), .val (.int (2 : Int32)), .val (.int (2 : Int32)), .val (.int (2 : Int32))] [] X322 hx hby e21_27_1 rfl rfl ?_
  refine own_go 3 X322 hx (hb hby d21_30) (by decide) (by decide) ?_
  refine own_ru 7 [(.int (2 : Int32)), (.int (2 : Int32))] X322 hx hby e21_3_2 rfl rfl ?_
  refine own_kY 33 X322 hx (hb hby d21_7) rfl (flt (by decide : ¬ ((2 : Int32) < (2 : Int32)))).2.1 (by decide) (by decide) ?_
  have hq323 : Q21n2 Z va ca kk kc y0 y1 h0 n0 none h322 _ := ⟨rfl, N322, KK322, V322⟩
  exact own_retV X322 hx hlk hrt (hb hby d21_33) e322 hq323 (by decide) (by decide)
def Q20n2 (Z : State) (va : Addr) (kk : ClassId) (y0 : Int32) (y1 : Int32) (h0 : Heap) (n0 : Nat) (v : Option Value) (h : Heap) (L : List Loc) : Prop := ∃ ob : Addr, ∃ kc : ClassId, v = some (.ref ob) ∧ Fr n0 L ∧ Keep h0 h [] ∧ Arv Z h ob kc .char (2 : Int32) [(.int (own_lc y0)), (.int (own_lc y1))] (.int (0 : Int32)) ∧ (h0.size ≤ ob)
set_option maxRecDepth 65536 in
set_option maxHeartbeats 40000000 in
theorem rm20n2 (l : Launch) (Z : State) (a0 : Array Value) (hw : OW a0 Z) (ws : List Jvm.Cond) (va : Addr) (kk : ClassId) (y0 : Int32) (y1 : Int32) (h0 : Heap) (n0 : Nat) (Z0 : n0 ≤ h0.size) (P0 : Arv Z h0 va kk .byte (2 : Int32) [(.int y0), (.int y1)] (.int (0 : Int32))) :
    own_Met l my20 jdk_43_method_9_code 2 (some (.array .char)) ws (own_rm 1 1 2 17) #[(.ref va)] Z h0 (Q20n2 Z va kk y0 y1 h0 n0) 1 2 := by
  refine own_body (plainFor_of_name pn_5) (fun m => by first | (simp [entryFrame, mkF, argsToLocals, Value.category]; done) | rfl) (Ls := #[.val (.ref va), .unset]) fun p e s m below meth c s₁ X0 hx hby hml hZ e0 hown hnm hlk hrt => ?_
  have N0 := Fr.nil n0
  have lt_P0 : @LT.lt Nat _ va (Array.size h0) := P0.lt
  refine own_ru 1 [(.ref va)] X0 hx hby e20_0_1 rfl rfl ?_
  refine own_aL X0 hx hZ e0 P0 2 rfl (hb hby d20_1) rfl ?_
  refine own_nP (aty := .char) X0 hx hZ (wd5 hw) e0 4 (hb hby d20_2) rfl rfl (by decide) (cap := 2) (by decide) (by decide) (by decide) (by decide) (ad := "[C") rfl fun T324 h324 k324 b324 g324 X324 e324 E324 A324 B324 => ?_
  have ll324 : @LT.lt Nat _ b324 (Array.size h324) := A324.lt
  have KK324 : Keep h0 h324 [] := (Keep.refl h0 []).ext E324
  have z324 := E324.1
  have V324 : Arv Z h324 b324 k324 .char (2 : Int32) [(.int (0 : Int32)), (.int (0 : Int32))] (.int (0 : Int32)) := (Arv.new A324 (by decide)).pad (pad_rep [] (.int (0 : Int32)) 2)
  refine own_rl 10 #[.val (.ref va), .val (.ref b324)] [(.ref va), (.int (0 : Int32)), (.ref b324), (.int (0 : Int32)), (.ref va)] X324 hx hby e20_4_6 rfl rfl ?_
  have f325 := (P0.ext E324)
  refine own_aL X324 hx hZ e324 f325 11 rfl (hb hby d20_10) rfl ?_
  refine own_cS X324 hx hZ hown (wd93 hw) (wd94 hw) (by decide) (wd95 hw) (wd65 hw) (rm21n2 l Z a0 hw [] va b324 kk k324 y0 y1 h324 n0 (by omega) f325 V324 (by omega) (by first | assumption | decide | omega)) e324  [(.ref va), (.int (0 : Int32)), (.ref b324), (.int (0 : Int32)), (.int (2 : Int32))] [] 14 0 (hb hby d20_11) rfl (by rw [hml]; rfl) rfl rfl (lenOf pd_16 rfl) rfl (by decide) fun v326 T326 Lc326 X326 hQ326 => ?_
  obtain ⟨rfl, N326q, K326, G326_0⟩ := hQ326
  have N326 := Fr.app N0 N326q
  have z326 := K326.1
  have KK326 : Keep h0 T326.heap [] := KK324.trans K326 (allS (Or.inr (by omega)) all0)
  have lt326_0 : @LT.lt Nat _ b324 (Array.size T326.heap) := G326_0.lt
  refine own_ru 15 [(.ref b324)] X326 hx hby e20_14_1 rfl rfl ?_
  have hq327 : Q20n2 Z va kk y0 y1 h0 n0 (some (.ref b324)) T326.heap _ := ⟨b324, k324, rfl, N326, KK326, G326_0, (by first | omega | assumption)⟩
  exact own_retR X326 hx hlk (w := (.ref b324)) rfl hrt rfl (hb hby d20_15) rfl hq327 (by decide) (by decide)
def Q31n2 (Z : State) (G1 : Int32) (G2 : Value) (va : Addr) (ca : Addr) (kk : ClassId) (kc : ClassId) (y0 : Int32) (y1 : Int32) (z0 : Int32) (z1 : Int32) (h0 : Heap) (n0 : Nat) (v : Option Value) (h : Heap) (L : List Loc) : Prop := v = none ∧ Fr n0 L ∧ Keep h0 h [ca] ∧ Arv Z h ca kc .char (2 : Int32) [(.int (nar .char (own_u y0 z0))), (.int (nar .char (own_u y1 z1)))] (.int (0 : Int32))
set_option maxRecDepth 65536 in
set_option maxHeartbeats 40000000 in
theorem rm31n2 (l : Launch) (Z : State) (a0 : Array Value) (hw : OW a0 Z) (ws : List Jvm.Cond) (G1 : Int32) (G2 : Value) (va : Addr) (ca : Addr) (kk : ClassId) (kc : ClassId) (y0 : Int32) (y1 : Int32) (z0 : Int32) (z1 : Int32) (h0 : Heap) (n0 : Nat) (Z0 : n0 ≤ h0.size) (OLD : Old Z n0 h0) (A : Amb Z G1 G2) (P0 : Arv Z h0 va kk .byte (4 : Int32) [(.int y0), (.int z0), (.int y1), (.int z1)] (.int (0 : Int32))) (P1 : Arv Z h0 ca kc .char (2 : Int32) [(.int (0 : Int32)), (.int (0 : Int32))] (.int (0 : Int32))) (g_ca : n0 ≤ ca) (hne : @Ne Nat va ca) :
    own_Met l my31 jdk_52_method_26_code 6 none ws (own_rm 3 0 0 43) #[(.ref va), (.int (0 : Int32)), (.int (2 : Int32)), (.ref ca), (.int (0 : Int32))] Z h0 (Q31n2 Z G1 G2 va ca kk kc y0 y1 z0 z1 h0 n0) 0 0 := by
  refine own_body (plainFor_of_name pn_3) (fun m => by first | (simp [entryFrame, mkF, argsToLocals, Value.category]; done) | rfl) (Ls := #[.val (.ref va), .val (.int (0 : Int32)), .val (.int (2 : Int32)), .val (.ref ca), .val (.int (0 : Int32)), .unset]) fun p e s m below meth c s₁ X0 hx hby hml hZ e0 hown hnm hlk hrt => ?_
  have N0 := Fr.nil n0
  have lt_P0 : @LT.lt Nat _ va (Array.size h0) := P0.lt
  have lt_P1 : @LT.lt Nat _ ca (Array.size h0) := P1.lt
  refine own_ru 2 [(.int (2 : Int32)), (.int (0 : Int32))] X0 hx hby e31_0_2 rfl rfl ?_
  refine own_kN 5 X0 hx (hb hby d31_2) rfl (tlt (by decide : ((0 : Int32) < (2 : Int32)))).2.1 rfl ?_
  refine own_ru 10 [(.ref va), (.int (2 : Int32)), (.int (0 : Int32))] X0 hx hby e31_5_5 rfl rfl ?_
  refine own_cS X0 hx hZ hown (wd133 hw) (wd134 hw) (by decide) (wd135 hw) (wd45 hw) (rm32 l Z a0 hw [] G1 G2 (0 : Int32) (2 : Int32) va kk (4 : Int32) [(.int y0), (.int z0), (.int y1), (.int z1)] h0 n0 (by omega) OLD A P0 (by decide) (by decide)) e0  [(.int (0 : Int32)), (.int (2 : Int32)), (.ref va)] [] 13 0 (hb hby d31_10) rfl (by rw [hml]; rfl) rfl rfl (lenOf pd_17 rfl) rfl (by decide) fun v328 T328 Lc328 X328 hQ328 => ?_
  obtain ⟨rfl, N328q, e328⟩ := hQ328
  have N328 := Fr.app N0 N328q
  refine own_rl 19 #[.val (.ref va), .val (.int (0 : Int32)), .val (.int (2 : Int32)), .val (.ref ca), .val (.int (0 : Int32)), .val (.int (0 : Int32))] [(.int (2 : Int32)), (.int (0 : Int32))] X328 hx hby e31_13_4 rfl rfl ?_
  refine own_kN 22 X328 hx (hb hby d31_19) rfl (tlt (by decide : ((0 : Int32) < (2 : Int32)))).2.1 rfl ?_
  refine own_rl 31 #[.val (.ref va), .val (.int (0 : Int32)), .val (.int (2 : Int32)), .val (.ref ca), .val (.int (1 : Int32)), .val (.int (0 : Int32))] [(.int (0 : Int32)), (.ref va), (.int (0 : Int32)), (.ref ca)] X328 hx hby e31_22_5 rfl rfl ?_
  refine own_cS X328 hx hZ hown (wd114 hw) (wd115 hw) (by decide) (wd116 hw) (wd45 hw) (rm26 l Z a0 hw [] G1 G2 va (0 : Int32) kk (4 : Int32) [(.int y0), (.int z0), (.int y1), (.int z1)] y0 z0 h0 n0 (by omega) OLD A P0 ⟨by decide, by decide⟩ ⟨by decide, by decide⟩ rfl rfl) e328  [(.ref va), (.int (0 : Int32))] [(.int (0 : Int32)), (.ref ca)] 34 2 (hb hby d31_31) rfl (by rw [hml]; rfl) rfl rfl (lenOf pd_5 rfl) rfl (by decide) fun v329 T329 Lc329 X329 hQ329 => ?_
  obtain ⟨rfl, N329q, e329⟩ := hQ329
  have N329 := Fr.app N328 N329q
  obtain ⟨cl330, Ar330, q330, S330, N330z, Hs330, G330⟩ := id P1
  have hin330 : ¬ ((0 : Int32) < 0 ∨ cl330.slots.size ≤ ((0 : Int32)).toNatClampNeg) := inb_of S330 ⟨by decide, by decide⟩
  obtain ⟨T331, h331, X331, e331, W331, st331⟩ := stC X329 hx hZ e329 Ar330 (j := (0 : Int32)) hin330 (g := (mkF m 34 #[.val (.ref va), .val (.int (0 : Int32)), .val (.int (2 : Int32)), .val (.ref ca), .val (.int (1 : Int32)), .val (.int (0 : Int32))] [(.int (own_u y0 z0)), (.int (0 : Int32)), (.ref ca)])) rfl rfl (hb hby d31_34)
  have V331 : Arv Z h331 ca kc .char (2 : Int32) [(.int (nar .char (own_u y0 z0))), (.int (0 : Int32))] (.int (0 : Int32)) := Arv.set Ar330 q330 S330 N330z Hs330 G330 (fits_nar_char _) W331 0 rfl (Nat.le_of_ble_eq_true rfl)
  have z331 := W331.size
  have KK331 : Keep h0 h331 [ca] := (Keep.refl h0 [ca]).wr W331 (Or.inl (by simp))
  have N331 := Fr.snoc X331 N329 (by omega)
  refine own_sT 35 [] st331 ?_
  refine own_rl 38 #[.val (.ref va), .val (.int (0 : Int32)), .val (.int (2 : Int32)), .val (.ref ca), .val (.int (1 : Int32)), .val (.int (1 : Int32))] [] X331 hx hby e31_35_1 rfl rfl ?_
  refine own_go 16 X331 hx (hb hby d31_38) (by decide) (by decide) ?_
  refine own_ru 19 [(.int (2 : Int32)), (.int (1 : Int32))] X331 hx hby e31_16_2 rfl rfl ?_
  refine own_kN 22 X331 hx (hb hby d31_19) rfl (tlt (by decide : ((1 : Int32) < (2 : Int32)))).2.1 rfl ?_
  refine own_rl 31 #[.val (.ref va), .val (.int (0 : Int32)), .val (.int (2 : Int32)), .val (.ref ca), .val (.int (2 : Int32)), .val (.int (1 : Int32))] [(.int (1 : Int32)), (.ref va), (.int (1 : Int32)), (.ref ca)] X331 hx hby e31_22_5 rfl rfl ?_
  have f332 := (OLD.wr W331 (by omega))
  have f333 := (P0.other W331 (own_ne (by omega)))
  refine own_cS X331 hx hZ hown (wd114 hw) (wd115 hw) (by decide) (wd116 hw) (wd45 hw) (rm26 l Z a0 hw [] G1 G2 va (1 : Int32) kk (4 : Int32) [(.int y0), (.int z0), (.int y1), (.int z1)] y1 z1 h331 n0 (by omega) f332 A f333 ⟨by decide, by decide⟩ ⟨by decide, by decide⟩ rfl rfl) e331  [(.ref va), (.int (1 : Int32))] [(.int (1 : Int32)), (.ref ca)] 34 2 (hb hby d31_31) rfl (by rw [hml]; rfl) rfl rfl (lenOf pd_5 rfl) rfl (by decide) fun v334 T334 Lc334 X334 hQ334 => ?_
  obtain ⟨rfl, N334q, e334⟩ := hQ334
  have N334 := Fr.app N331 N334q
  obtain ⟨cl335, Ar335, q335, S335, N335z, Hs335, G335⟩ := id V331
  have hin335 : ¬ ((1 : Int32) < 0 ∨ cl335.slots.size ≤ ((1 : Int32)).toNatClampNeg) := inb_of S335 ⟨by decide, by decide⟩
  obtain ⟨T336, h336, X336, e336, W336, st336⟩ := stC X334 hx hZ e334 Ar335 (j := (1 : Int32)) hin335 (g := (mkF m 34 #[.val (.ref va), .val (.int (0 : Int32)), .val (.int (2 : Int32)), .val (.ref ca), .val (.int (2 : Int32)), .val (.int (1 : Int32))] [(.int (own_u y1 z1)), (.int (1 : Int32)), (.ref ca)])) rfl rfl (hb hby d31_34)
  have V336 : Arv Z h336 ca kc .char (2 : Int32) [(.int (nar .char (own_u y0 z0))), (.int (nar .char (own_u y1 z1)))] (.int (0 : Int32)) := Arv.set Ar335 q335 S335 N335z Hs335 G335 (fits_nar_char _) W336 1 rfl (Nat.le_of_ble_eq_true rfl)
  have z336 := W336.size
  have KK336 : Keep h0 h336 [ca] := KK331.wr W336 (Or.inl (by simp))
  have N336 := Fr.snoc X336 N334 (by omega)
  refine own_sT 35 [] st336 ?_
  refine own_rl 38 #[.val (.ref va), .val (.int (0 : Int32)), .val (.int (2 : Int32)), .val (.ref ca), .val (.int (2 : Int32)), .val (.int (2 : Int32))] [] X336 hx hby e31_35_1 rfl rfl ?_
  refine own_go 16 X336 hx (hb hby d31_38) (by decide) (by decide) ?_
  refine own_ru 19 [(.int (2 : Int32)), (.int (2 : Int32))] X336 hx hby e31_16_2 rfl rfl ?_
  refine own_kY 41 X336 hx (hb hby d31_19) rfl (flt (by decide : ¬ ((2 : Int32) < (2 : Int32)))).2.1 (by decide) (by decide) ?_
  have hq337 : Q31n2 Z G1 G2 va ca kk kc y0 y1 z0 z1 h0 n0 none h336 _ := ⟨rfl, N336, KK336, V336⟩
  exact own_retV X336 hx hlk hrt (hb hby d31_41) e336 hq337 (by decide) (by decide)
def Q30n2 (Z : State) (G1 : Int32) (G2 : Value) (va : Addr) (kk : ClassId) (y0 : Int32) (y1 : Int32) (z0 : Int32) (z1 : Int32) (h0 : Heap) (n0 : Nat) (v : Option Value) (h : Heap) (L : List Loc) : Prop := ∃ ob : Addr, ∃ kc : ClassId, v = some (.ref ob) ∧ Fr n0 L ∧ Keep h0 h [] ∧ Arv Z h ob kc .char (2 : Int32) [(.int (nar .char (own_u y0 z0))), (.int (nar .char (own_u y1 z1)))] (.int (0 : Int32)) ∧ (h0.size ≤ ob)
set_option maxRecDepth 65536 in
set_option maxHeartbeats 40000000 in
theorem rm30n2 (l : Launch) (Z : State) (a0 : Array Value) (hw : OW a0 Z) (ws : List Jvm.Cond) (G1 : Int32) (G2 : Value) (va : Addr) (kk : ClassId) (y0 : Int32) (y1 : Int32) (z0 : Int32) (z1 : Int32) (h0 : Heap) (n0 : Nat) (Z0 : n0 ≤ h0.size) (OLD : Old Z n0 h0) (A : Amb Z G1 G2) (P0 : Arv Z h0 va kk .byte (4 : Int32) [(.int y0), (.int z0), (.int y1), (.int z1)] (.int (0 : Int32))) :
    own_Met l my30 jdk_52_method_13_code 2 (some (.array .char)) ws (own_rm 4 1 2 60) #[(.ref va)] Z h0 (Q30n2 Z G1 G2 va kk y0 y1 z0 z1 h0 n0) 1 2 := by
  refine own_body (plainFor_of_name pn_3) (fun m => by first | (simp [entryFrame, mkF, argsToLocals, Value.category]; done) | rfl) (Ls := #[.val (.ref va), .unset]) fun p e s m below meth c s₁ X0 hx hby hml hZ e0 hown hnm hlk hrt => ?_
  have N0 := Fr.nil n0
  have lt_P0 : @LT.lt Nat _ va (Array.size h0) := P0.lt
  refine own_ru 1 [(.ref va)] X0 hx hby e30_0_1 rfl rfl ?_
  refine own_aL X0 hx hZ e0 P0 2 rfl (hb hby d30_1) rfl ?_
  refine own_ru 4 [(.int (2 : Int32))] X0 hx hby e30_2_2 rfl rfl ?_
  refine own_nP (aty := .char) X0 hx hZ (wd5 hw) e0 6 (hb hby d30_4) rfl rfl (by decide) (cap := 2) (by decide) (by decide) (by decide) (by decide) (ad := "[C") rfl fun T338 h338 k338 b338 g338 X338 e338 E338 A338 B338 => ?_
  have ll338 : @LT.lt Nat _ b338 (Array.size h338) := A338.lt
  have KK338 : Keep h0 h338 [] := (Keep.refl h0 []).ext E338
  have z338 := E338.1
  have V338 : Arv Z h338 b338 k338 .char (2 : Int32) [(.int (0 : Int32)), (.int (0 : Int32))] (.int (0 : Int32)) := (Arv.new A338 (by decide)).pad (pad_rep [] (.int (0 : Int32)) 2)
  refine own_rl 10 #[.val (.ref va), .val (.ref b338)] [(.ref b338), (.int (0 : Int32)), (.ref va)] X338 hx hby e30_6_4 rfl rfl ?_
  refine own_aL X338 hx hZ e338 V338 11 rfl (hb hby d30_10) rfl ?_
  refine own_ru 13 [(.int (0 : Int32)), (.ref b338), (.int (2 : Int32)), (.int (0 : Int32)), (.ref va)] X338 hx hby e30_11_2 rfl rfl ?_
  have f339 := (OLD.ext E338)
  have f340 := (P0.ext E338)
  refine own_cS X338 hx hZ hown (wd130 hw) (wd131 hw) (by decide) (wd132 hw) (wd45 hw) (rm31n2 l Z a0 hw [] G1 G2 va b338 kk k338 y0 y1 z0 z1 h338 n0 (by omega) f339 A f340 V338 (by omega) (by first | assumption | decide | omega)) e338  [(.ref va), (.int (0 : Int32)), (.int (2 : Int32)), (.ref b338), (.int (0 : Int32))] [] 16 0 (hb hby d30_13) rfl (by rw [hml]; rfl) rfl rfl (lenOf pd_18 rfl) rfl (by decide) fun v341 T341 Lc341 X341 hQ341 => ?_
  obtain ⟨rfl, N341q, K341, G341_0⟩ := hQ341
  have N341 := Fr.app N0 N341q
  have z341 := K341.1
  have KK341 : Keep h0 T341.heap [] := KK338.trans K341 (allS (Or.inr (by omega)) all0)
  have lt341_0 : @LT.lt Nat _ b338 (Array.size T341.heap) := G341_0.lt
  refine own_ru 17 [(.ref b338)] X341 hx hby e30_16_1 rfl rfl ?_
  have hq342 : Q30n2 Z G1 G2 va kk y0 y1 z0 z1 h0 n0 (some (.ref b338)) T341.heap _ := ⟨b338, k338, rfl, N341, KK341, G341_0, (by first | omega | assumption)⟩
  exact own_retR X341 hx hlk (w := (.ref b338)) rfl hrt rfl (hb hby d30_17) rfl hq342 (by decide) (by decide)
def Q19n20 (Z : State) (G1 : Int32) (G2 : Value) (s1 : Addr) (ta : Addr) (kt : ClassId) (y0 : Int32) (y1 : Int32) (h0 : Heap) (n0 : Nat) (v : Option Value) (h : Heap) (L : List Loc) : Prop := ∃ ob : Addr, ∃ kc : ClassId, v = some (.ref ob) ∧ Fr n0 L ∧ Keep h0 h [] ∧ Arv Z h ob kc .char (2 : Int32) [(.int (own_lc y0)), (.int (own_lc y1))] (.int (0 : Int32)) ∧ (h0.size ≤ ob)
set_option maxRecDepth 65536 in
set_option maxHeartbeats 40000000 in
theorem rm19n20 (l : Launch) (Z : State) (a0 : Array Value) (hw : OW a0 Z) (ws : List Jvm.Cond) (G1 : Int32) (G2 : Value) (s1 : Addr) (ta : Addr) (kt : ClassId) (y0 : Int32) (y1 : Int32) (h0 : Heap) (n0 : Nat) (Z0 : n0 ≤ h0.size) (OLD : Old Z n0 h0) (A : Amb Z G1 G2) (P0 : ex1 Z h0 s1) (P1 : fl2 Z h0 s1 (.ref ta)) (P2 : fl0 Z h0 s1 (.int (0 : Int32))) (P3 : Arv Z h0 ta kt .byte (2 : Int32) [(.int y0), (.int y1)] (.int (0 : Int32))) :
    own_Met l my19 jdk_42_method_129_code 1 (some (.array .char)) ws (own_rm 2 1 2 30) #[(.ref s1)] Z h0 (Q19n20 Z G1 G2 s1 ta kt y0 y1 h0 n0) 1 2 := by
  refine own_body (plainFor_of_name pn_2) (fun m => by first | (simp [entryFrame, mkF, argsToLocals, Value.category]; done) | rfl) (Ls := #[.val (.ref s1)]) fun p e s m below meth c s₁ X0 hx hby hml hZ e0 hown hnm hlk hrt => ?_
  have N0 := Fr.nil n0
  have lt_P0 : @LT.lt Nat _ s1 (Array.size h0) := P0.lt
  have lt_P3 : @LT.lt Nat _ ta (Array.size h0) := P3.lt
  refine own_ru 1 [(.ref s1)] X0 hx hby e19_0_1 rfl rfl ?_
  refine own_cV X0 hx hZ hown (wd58 hw) (wd59 hw) (notFace_of_selects (args := #[]) (mvT hZ (wd61 hw))) (wd61 hw) (wd60 hw) (by decide) (wd62 hw) (wd8 hw) (rm12d0 l Z a0 hw [] G1 G2 s1 h0 n0 (by omega) OLD A P2) e0 P0 [] [] 4 0 (hb hby d19_1) rfl (by rw [hml]; rfl) rfl rfl (lenOf pd_6 rfl) rfl (by decide) fun v343 T343 Lc343 X343 hQ343 => ?_
  obtain ⟨rfl, N343q, e343⟩ := hQ343
  have N343 := Fr.app N0 N343q
  refine own_iN 7 X343 hx (hb hby d19_4) rfl ((if0 _ _).trans (feq (by decide : ¬ ((1 : Int32) = (0 : Int32)))).1) rfl ?_
  refine own_ru 8 [(.ref s1)] X343 hx hby e19_7_1 rfl rfl ?_
  refine own_gF X343 hx hZ hown (host := "") (Or.inl (wd25 hw)) Via.refl e343 P1 11 rfl (hb hby d19_8) rfl fun T344 X344 e344 => ?_
  refine own_cS X344 hx hZ hown (wd90 hw) (wd91 hw) (by decide) (wd92 hw) (wd65 hw) (rm20n2 l Z a0 hw [] ta kt y0 y1 h0 n0 (by omega) P3) e344  [(.ref ta)] [] 14 0 (hb hby d19_11) rfl (by rw [hml]; rfl) rfl rfl (lenOf pd_19 rfl) rfl (by decide) fun v345 T345 Lc345 X345 hQ345 => ?_
  obtain ⟨ob_345, kc_345, rfl, N345q, K345, G345_0, U345_0⟩ := hQ345
  have N345 := Fr.app N343 N345q
  have z345 := K345.1
  have KK345 : Keep h0 T345.heap [] := (Keep.refl h0 []).trans K345 all0
  have lt345_0 : @LT.lt Nat _ ob_345 (Array.size T345.heap) := G345_0.lt
  refine own_go 24 X345 hx (hb hby d19_14) (by decide) (by decide) ?_
  have hq346 : Q19n20 Z G1 G2 s1 ta kt y0 y1 h0 n0 (some (.ref ob_345)) T345.heap _ := ⟨ob_345, kc_345, rfl, N345, KK345, G345_0, (by first | omega | assumption)⟩
  exact own_retR X345 hx hlk (w := (.ref ob_345)) rfl hrt rfl (hb hby d19_24) rfl hq346 (by decide) (by decide)
def Q19n21 (Z : State) (G1 : Int32) (G2 : Value) (s1 : Addr) (ta : Addr) (kt : ClassId) (y0 : Int32) (y1 : Int32) (z0 : Int32) (z1 : Int32) (h0 : Heap) (n0 : Nat) (v : Option Value) (h : Heap) (L : List Loc) : Prop := ∃ ob : Addr, ∃ kc : ClassId, v = some (.ref ob) ∧ Fr n0 L ∧ Keep h0 h [] ∧ Arv Z h ob kc .char (2 : Int32) [(.int (nar .char (own_u y0 z0))), (.int (nar .char (own_u y1 z1)))] (.int (0 : Int32)) ∧ (h0.size ≤ ob)
set_option maxRecDepth 65536 in
set_option maxHeartbeats 40000000 in
theorem rm19n21 (l : Launch) (Z : State) (a0 : Array Value) (hw : OW a0 Z) (ws : List Jvm.Cond) (G1 : Int32) (G2 : Value) (s1 : Addr) (ta : Addr) (kt : ClassId) (y0 : Int32) (y1 : Int32) (z0 : Int32) (z1 : Int32) (h0 : Heap) (n0 : Nat) (Z0 : n0 ≤ h0.size) (OLD : Old Z n0 h0) (A : Amb Z G1 G2) (P0 : ex1 Z h0 s1) (P1 : fl2 Z h0 s1 (.ref ta)) (P2 : fl0 Z h0 s1 (.int (1 : Int32))) (P3 : Arv Z h0 ta kt .byte (4 : Int32) [(.int y0), (.int z0), (.int y1), (.int z1)] (.int (0 : Int32))) :
    own_Met l my19 jdk_42_method_129_code 1 (some (.array .char)) ws (own_rm 5 1 2 73) #[(.ref s1)] Z h0 (Q19n21 Z G1 G2 s1 ta kt y0 y1 z0 z1 h0 n0) 1 2 := by
  refine own_body (plainFor_of_name pn_2) (fun m => by first | (simp [entryFrame, mkF, argsToLocals, Value.category]; done) | rfl) (Ls := #[.val (.ref s1)]) fun p e s m below meth c s₁ X0 hx hby hml hZ e0 hown hnm hlk hrt => ?_
  have N0 := Fr.nil n0
  have lt_P0 : @LT.lt Nat _ s1 (Array.size h0) := P0.lt
  have lt_P3 : @LT.lt Nat _ ta (Array.size h0) := P3.lt
  refine own_ru 1 [(.ref s1)] X0 hx hby e19_0_1 rfl rfl ?_
  refine own_cV X0 hx hZ hown (wd58 hw) (wd59 hw) (notFace_of_selects (args := #[]) (mvT hZ (wd61 hw))) (wd61 hw) (wd60 hw) (by decide) (wd62 hw) (wd8 hw) (rm12d1 l Z a0 hw [] G1 G2 s1 h0 n0 (by omega) OLD A P2) e0 P0 [] [] 4 0 (hb hby d19_1) rfl (by rw [hml]; rfl) rfl rfl (lenOf pd_6 rfl) rfl (by decide) fun v347 T347 Lc347 X347 hQ347 => ?_
  obtain ⟨rfl, N347q, e347⟩ := hQ347
  have N347 := Fr.app N0 N347q
  refine own_iY 17 X347 hx (hb hby d19_4) rfl ((if0 _ _).trans (teq (by decide : ((0 : Int32) = (0 : Int32)))).1) (by decide) (by decide) ?_
  refine own_ru 18 [(.ref s1)] X347 hx hby e19_17_1 rfl rfl ?_
  refine own_gF X347 hx hZ hown (host := "") (Or.inl (wd25 hw)) Via.refl e347 P1 21 rfl (hb hby d19_18) rfl fun T348 X348 e348 => ?_
  refine own_cS X348 hx hZ hown (wd127 hw) (wd128 hw) (by decide) (wd129 hw) (wd45 hw) (rm30n2 l Z a0 hw [] G1 G2 ta kt y0 y1 z0 z1 h0 n0 (by omega) OLD A P3) e348  [(.ref ta)] [] 24 0 (hb hby d19_21) rfl (by rw [hml]; rfl) rfl rfl (lenOf pd_19 rfl) rfl (by decide) fun v349 T349 Lc349 X349 hQ349 => ?_
  obtain ⟨ob_349, kc_349, rfl, N349q, K349, G349_0, U349_0⟩ := hQ349
  have N349 := Fr.app N347 N349q
  have z349 := K349.1
  have KK349 : Keep h0 T349.heap [] := (Keep.refl h0 []).trans K349 all0
  have lt349_0 : @LT.lt Nat _ ob_349 (Array.size T349.heap) := G349_0.lt
  have hq350 : Q19n21 Z G1 G2 s1 ta kt y0 y1 z0 z1 h0 n0 (some (.ref ob_349)) T349.heap _ := ⟨ob_349, kc_349, rfl, N349, KK349, G349_0, (by first | omega | assumption)⟩
  exact own_retR X349 hx hlk (w := (.ref ob_349)) rfl hrt rfl (hb hby d19_24) rfl hq350 (by decide) (by decide)
def Q21n3 (Z : State) (va : Addr) (ca : Addr) (kk : ClassId) (kc : ClassId) (y0 : Int32) (y1 : Int32) (y2 : Int32) (h0 : Heap) (n0 : Nat) (v : Option Value) (h : Heap) (L : List Loc) : Prop := v = none ∧ Fr n0 L ∧ Keep h0 h [ca] ∧ Arv Z h ca kc .char (3 : Int32) [(.int (own_lc y0)), (.int (own_lc y1)), (.int (own_lc y2))] (.int (0 : Int32))
set_option maxRecDepth 65536 in
set_option maxHeartbeats 40000000 in
theorem rm21n3 (l : Launch) (Z : State) (a0 : Array Value) (hw : OW a0 Z) (ws : List Jvm.Cond) (va : Addr) (ca : Addr) (kk : ClassId) (kc : ClassId) (y0 : Int32) (y1 : Int32) (y2 : Int32) (h0 : Heap) (n0 : Nat) (Z0 : n0 ≤ h0.size) (P0 : Arv Z h0 va kk .byte (3 : Int32) [(.int y0), (.int y1), (.int y2)] (.int (0 : Int32))) (P1 : Arv Z h0 ca kc .char (3 : Int32) [(.int (0 : Int32)), (.int (0 : Int32)), (.int (0 : Int32))] (.int (0 : Int32))) (g_ca : n0 ≤ ca) (hne : @Ne Nat va ca) :
    own_Met l my21 jdk_43_method_49_code 6 none ws (own_rm 0 0 0 0) #[(.ref va), (.int (0 : Int32)), (.ref ca), (.int (0 : Int32)), (.int (3 : Int32))] Z h0 (Q21n3 Z va ca kk kc y0 y1 y2 h0 n0) 0 0 := by
  refine own_body (plainFor_of_name pn_5) (fun m => by first | (simp [entryFrame, mkF, argsToLocals, Value.category]; done) | rfl) (Ls := #[.val (.ref va), .val (.int (0 : Int32)), .val (.ref ca), .val (.int (0 : Int32)), .val (.int (3 : Int32)), .unset]) fun p e s m below meth c s₁ X0 hx hby hml hZ e0 hown hnm hlk hrt => ?_
  have N0 := Fr.nil n0
  have lt_P0 : @LT.lt Nat _ va (Array.size h0) := P0.lt
  have lt_P1 : @LT.lt Nat _ ca (Array.size h0) := P1.lt
  refine own_rl 7 #[.val (.ref va), .val (.int (0 : Int32)), .val (.ref ca), .val (.int (0 : Int32)), .val (.int (3 : Int32)), .val (.int (0 : Int32))] [(.int (3 : Int32)), (.int (0 : Int32))] X0 hx hby e21_0_4 rfl rfl ?_
  refine own_kN 10 X0 hx (hb hby d21_7) rfl (tlt (by decide : ((0 : Int32) < (3 : Int32)))).2.1 rfl ?_
  refine own_rl 20 #[.val (.ref va), .val (.int (1 : Int32)), .val (.ref ca), .val (.int (1 : Int32)), .val (.int (3 : Int32)), .val (.int (0 : Int32))] [(.int (0 : Int32)), (.ref va), (.int (0 : Int32)), (.ref ca)] X0 hx hby e21_10_6 rfl rfl ?_
  refine own_bL X0 hx hZ e0 P0 (x := y0) 21 rfl (hb hby d21_20) rfl ⟨by decide, by decide⟩ rfl ?_
  refine own_ru 26 [(.int ((y0 &&& (255 : Int32)).toUInt32.toUInt16.toUInt32.toInt32)), (.int (0 : Int32)), (.ref ca)] X0 hx hby e21_21_3 rfl rfl ?_
  obtain ⟨cl351, Ar351, q351, S351, N351z, Hs351, G351⟩ := id P1
  have hin351 : ¬ ((0 : Int32) < 0 ∨ cl351.slots.size ≤ ((0 : Int32)).toNatClampNeg) := inb_of S351 ⟨by decide, by decide⟩
  obtain ⟨T352, h352, X352, e352, W352, st352⟩ := stC X0 hx hZ e0 Ar351 (j := (0 : Int32)) hin351 (g := (mkF m 26 #[.val (.ref va), .val (.int (1 : Int32)), .val (.ref ca), .val (.int (1 : Int32)), .val (.int (3 : Int32)), .val (.int (0 : Int32))] [(.int ((y0 &&& (255 : Int32)).toUInt32.toUInt16.toUInt32.toInt32)), (.int (0 : Int32)), (.ref ca)])) rfl rfl (hb hby d21_26)
  have V352 : Arv Z h352 ca kc .char (3 : Int32) [(.int (nar .char ((y0 &&& (255 : Int32)).toUInt32.toUInt16.toUInt32.toInt32))), (.int (0 : Int32)), (.int (0 : Int32))] (.int (0 : Int32)) := Arv.set Ar351 q351 S351 N351z Hs351 G351 (fits_nar_char _) W352 0 rfl (Nat.le_of_ble_eq_true rfl)
  have z352 := W352.size
  have KK352 : Keep h0 h352 [ca] := (Keep.refl h0 [ca]).wr W352 (Or.inl (by simp))
  have N352 := Fr.snoc X352 N0 (by omega)
  refine own_sT 27 [] st352 ?_
  refine own_rl 30 #[.val (.ref va), .val (.int (1 : Int32)), .val (.ref ca), .val (.int (1 : Int32)), .val (.int (3 : Int32)), .val (.int (1 : Int32))] [] X352 hx hby e21_27_1 rfl rfl ?_
  refine own_go 3 X352 hx (hb hby d21_30) (by decide) (by decide) ?_
  refine own_ru 7 [(.int (3 : Int32)), (.int (1 : Int32))] X352 hx hby e21_3_2 rfl rfl ?_
  refine own_kN 10 X352 hx (hb hby d21_7) rfl (tlt (by decide : ((1 : Int32) < (3 : Int32)))).2.1 rfl ?_
  refine own_rl 20 #[.val (.ref va), .val (.int (2 : Int32)), .val (.ref ca), .val (.int (2 : Int32)), .val (.int (3 : Int32)), .val (.int (1 : Int32))] [(.int (1 : Int32)), (.ref va), (.int (1 : Int32)), (.ref ca)] X352 hx hby e21_10_6 rfl rfl ?_
  have f353 := (P0.other W352 (own_ne (by omega)))
  refine own_bL X352 hx hZ e352 f353 (x := y1) 21 rfl (hb hby d21_20) rfl ⟨by decide, by decide⟩ rfl ?_
  refine own_ru 26 [(.int ((y1 &&& (255 : Int32)).toUInt32.toUInt16.toUInt32.toInt32)), (.int (1 : Int32)), (.ref ca)] X352 hx hby e21_21_3 rfl rfl ?_
  obtain ⟨cl354, Ar354, q354, S354, N354z, Hs354, G354⟩ := id V352
  have hin354 : ¬ ((1 : Int32) < 0 ∨ cl354.slots.size ≤ ((1 : Int32)).toNatClampNeg) := inb_of S354 ⟨by decide, by decide⟩
  obtain ⟨T355, h355, X355, e355, W355, st355⟩ := stC X352 hx hZ e352 Ar354 (j := (1 : Int32)) hin354 (g := (mkF m 26 #[.val (.ref va), .val (.int (2 : Int32)), .val (.ref ca), .val (.int (2 : Int32)), .val (.int (3 : Int32)), .val (.int (1 : Int32))] [(.int ((y1 &&& (255 : Int32)).toUInt32.toUInt16.toUInt32.toInt32)), (.int (1 : Int32)), (.ref ca)])) rfl rfl (hb hby d21_26)
  have V355 : Arv Z h355 ca kc .char (3 : Int32) [(.int (nar .char ((y0 &&& (255 : Int32)).toUInt32.toUInt16.toUInt32.toInt32))), (.int (nar .char ((y1 &&& (255 : Int32)).toUInt32.toUInt16.toUInt32.toInt32))), (.int (0 : Int32))] (.int (0 : Int32)) := Arv.set Ar354 q354 S354 N354z Hs354 G354 (fits_nar_char _) W355 1 rfl (Nat.le_of_ble_eq_true rfl)
  have z355 := W355.size
  have KK355 : Keep h0 h355 [ca] := KK352.wr W355 (Or.inl (by simp))
  have N355 := Fr.snoc X355 N352 (by omega)
  refine own_sT 27 [] st355 ?_
  refine own_rl 30 #[.val (.ref va), .val (.int (2 : Int32)), .val (.ref ca), .val (.int (2 : Int32)), .val (.int (3 : Int32)), .val (.int (2 : Int32))] [] X355 hx hby e21_27_1 rfl rfl ?_
  refine own_go 3 X355 hx (hb hby d21_30) (by decide) (by decide) ?_
  refine own_ru 7 [(.int (3 : Int32)), (.int (2 : Int32))] X355 hx hby e21_3_2 rfl rfl ?_
  refine own_kN 10 X355 hx (hb hby d21_7) rfl (tlt (by decide : ((2 : Int32) < (3 : Int32)))).2.1 rfl ?_
  refine own_rl 20 #[.val (.ref va), .val (.int (3 : Int32)), .val (.ref ca), .val (.int (3 : Int32)), .val (.int (3 : Int32)), .val (.int (2 : Int32))] [(.int (2 : Int32)), (.ref va), (.int (2 : Int32)), (.ref ca)] X355 hx hby e21_10_6 rfl rfl ?_
  have f356 := (f353.other W355 (own_ne (by omega)))
  refine own_bL X355 hx hZ e355 f356 (x := y2) 21 rfl (hb hby d21_20) rfl ⟨by decide, by decide⟩ rfl ?_
  refine own_ru 26 [(.int ((y2 &&& (255 : Int32)).toUInt32.toUInt16.toUInt32.toInt32)), (.int (2 : Int32)), (.ref ca)] X355 hx hby e21_21_3 rfl rfl ?_
  obtain ⟨cl357, Ar357, q357, S357, N357z, Hs357, G357⟩ := id V355
  have hin357 : ¬ ((2 : Int32) < 0 ∨ cl357.slots.size ≤ ((2 : Int32)).toNatClampNeg) := inb_of S357 ⟨by decide, by decide⟩
  obtain ⟨T358, h358, X358, e358, W358, st358⟩ := stC X355 hx hZ e355 Ar357 (j := (2 : Int32)) hin357 (g := (mkF m 26 #[.val (.ref va), .val (.int (3 : Int32)), .val (.ref ca), .val (.int (3 : Int32)), .val (.int (3 : Int32)), .val (.int (2 : Int32))] [(.int ((y2 &&& (255 : Int32)).toUInt32.toUInt16.toUInt32.toInt32)), (.int (2 : Int32)), (.ref ca)])) rfl rfl (hb hby d21_26)
  have V358 : Arv Z h358 ca kc .char (3 : Int32) [(.int (nar .char ((y0 &&& (255 : Int32)).toUInt32.toUInt16.toUInt32.toInt32))), (.int (nar .char ((y1 &&& (255 : Int32)).toUInt32.toUInt16.toUInt32.toInt32))), (.int (nar .char ((y2 &&& (255 : Int32)).toUInt32.toUInt16.toUInt32.toInt32)))] (.int (0 : Int32)) := Arv.set Ar357 q357 S357 N357z Hs357 G357 (fits_nar_char _) W358 2 rfl (Nat.le_of_ble_eq_true rfl)
  have z358 := W358.size
  have KK358 : Keep h0 h358 [ca] := KK355.wr W358 (Or.inl (by simp))
  have N358 := Fr.snoc X358 N355 (by omega)
  refine own_sT 27 [] st358 ?_
  refine own_rl 30 #[.val (.ref va), .val (.int (3 : Int32)), .val (.ref ca), .val (.int (3 : Int32)), .val (.int (3 : Int32)), .val (.int (3 : Int32))] [] X358 hx hby e21_27_1 rfl rfl ?_
  refine own_go 3 X358 hx (hb hby d21_30) (by decide) (by decide) ?_
  refine own_ru 7 [(.int (3 : Int32)), (.int (3 : Int32))] X358 hx hby e21_3_2 rfl rfl ?_
  refine own_kY 33 X358 hx (hb hby d21_7) rfl (flt (by decide : ¬ ((3 : Int32) < (3 : Int32)))).2.1 (by decide) (by decide) ?_
  have hq359 : Q21n3 Z va ca kk kc y0 y1 y2 h0 n0 none h358 _ := ⟨rfl, N358, KK358, V358⟩
  exact own_retV X358 hx hlk hrt (hb hby d21_33) e358 hq359 (by decide) (by decide)
def Q20n3 (Z : State) (va : Addr) (kk : ClassId) (y0 : Int32) (y1 : Int32) (y2 : Int32) (h0 : Heap) (n0 : Nat) (v : Option Value) (h : Heap) (L : List Loc) : Prop := ∃ ob : Addr, ∃ kc : ClassId, v = some (.ref ob) ∧ Fr n0 L ∧ Keep h0 h [] ∧ Arv Z h ob kc .char (3 : Int32) [(.int (own_lc y0)), (.int (own_lc y1)), (.int (own_lc y2))] (.int (0 : Int32)) ∧ (h0.size ≤ ob)
set_option maxRecDepth 65536 in
set_option maxHeartbeats 40000000 in
theorem rm20n3 (l : Launch) (Z : State) (a0 : Array Value) (hw : OW a0 Z) (ws : List Jvm.Cond) (va : Addr) (kk : ClassId) (y0 : Int32) (y1 : Int32) (y2 : Int32) (h0 : Heap) (n0 : Nat) (Z0 : n0 ≤ h0.size) (P0 : Arv Z h0 va kk .byte (3 : Int32) [(.int y0), (.int y1), (.int y2)] (.int (0 : Int32))) :
    own_Met l my20 jdk_43_method_9_code 2 (some (.array .char)) ws (own_rm 1 1 3 17) #[(.ref va)] Z h0 (Q20n3 Z va kk y0 y1 y2 h0 n0) 1 3 := by
  refine own_body (plainFor_of_name pn_5) (fun m => by first | (simp [entryFrame, mkF, argsToLocals, Value.category]; done) | rfl) (Ls := #[.val (.ref va), .unset]) fun p e s m below meth c s₁ X0 hx hby hml hZ e0 hown hnm hlk hrt => ?_
  have N0 := Fr.nil n0
  have lt_P0 : @LT.lt Nat _ va (Array.size h0) := P0.lt
  refine own_ru 1 [(.ref va)] X0 hx hby e20_0_1 rfl rfl ?_
  refine own_aL X0 hx hZ e0 P0 2 rfl (hb hby d20_1) rfl ?_
  refine own_nP (aty := .char) X0 hx hZ (wd5 hw) e0 4 (hb hby d20_2) rfl rfl (by decide) (cap := 3) (by decide) (by decide) (by decide) (by decide) (ad := "[C") rfl fun T360 h360 k360 b360 g360 X360 e360 E360 A360 B360 => ?_
  have ll360 : @LT.lt Nat _ b360 (Array.size h360) := A360.lt
  have KK360 : Keep h0 h360 [] := (Keep.refl h0 []).ext E360
  have z360 := E360.1
  have V360 : Arv Z h360 b360 k360 .char (3 : Int32) [(.int (0 : Int32)), (.int (0 : Int32)), (.int (0 : Int32))] (.int (0 : Int32)) := (Arv.new A360 (by decide)).pad (pad_rep [] (.int (0 : Int32)) 3)
  refine own_rl 10 #[.val (.ref va), .val (.ref b360)] [(.ref va), (.int (0 : Int32)), (.ref b360), (.int (0 : Int32)), (.ref va)] X360 hx hby e20_4_6 rfl rfl ?_
  have f361 := (P0.ext E360)
  refine own_aL X360 hx hZ e360 f361 11 rfl (hb hby d20_10) rfl ?_
  refine own_cS X360 hx hZ hown (wd93 hw) (wd94 hw) (by decide) (wd95 hw) (wd65 hw) (rm21n3 l Z a0 hw [] va b360 kk k360 y0 y1 y2 h360 n0 (by omega) f361 V360 (by omega) (by first | assumption | decide | omega)) e360  [(.ref va), (.int (0 : Int32)), (.ref b360), (.int (0 : Int32)), (.int (3 : Int32))] [] 14 0 (hb hby d20_11) rfl (by rw [hml]; rfl) rfl rfl (lenOf pd_16 rfl) rfl (by decide) fun v362 T362 Lc362 X362 hQ362 => ?_
  obtain ⟨rfl, N362q, K362, G362_0⟩ := hQ362
  have N362 := Fr.app N0 N362q
  have z362 := K362.1
  have KK362 : Keep h0 T362.heap [] := KK360.trans K362 (allS (Or.inr (by omega)) all0)
  have lt362_0 : @LT.lt Nat _ b360 (Array.size T362.heap) := G362_0.lt
  refine own_ru 15 [(.ref b360)] X362 hx hby e20_14_1 rfl rfl ?_
  have hq363 : Q20n3 Z va kk y0 y1 y2 h0 n0 (some (.ref b360)) T362.heap _ := ⟨b360, k360, rfl, N362, KK362, G362_0, (by first | omega | assumption)⟩
  exact own_retR X362 hx hlk (w := (.ref b360)) rfl hrt rfl (hb hby d20_15) rfl hq363 (by decide) (by decide)
def Q31n3 (Z : State) (G1 : Int32) (G2 : Value) (va : Addr) (ca : Addr) (kk : ClassId) (kc : ClassId) (y0 : Int32) (y1 : Int32) (y2 : Int32) (z0 : Int32) (z1 : Int32) (z2 : Int32) (h0 : Heap) (n0 : Nat) (v : Option Value) (h : Heap) (L : List Loc) : Prop := v = none ∧ Fr n0 L ∧ Keep h0 h [ca] ∧ Arv Z h ca kc .char (3 : Int32) [(.int (nar .char (own_u y0 z0))), (.int (nar .char (own_u y1 z1))), (.int (nar .char (own_u y2 z2)))] (.int (0 : Int32))
set_option maxRecDepth 65536 in
set_option maxHeartbeats 40000000 in
theorem rm31n3 (l : Launch) (Z : State) (a0 : Array Value) (hw : OW a0 Z) (ws : List Jvm.Cond) (G1 : Int32) (G2 : Value) (va : Addr) (ca : Addr) (kk : ClassId) (kc : ClassId) (y0 : Int32) (y1 : Int32) (y2 : Int32) (z0 : Int32) (z1 : Int32) (z2 : Int32) (h0 : Heap) (n0 : Nat) (Z0 : n0 ≤ h0.size) (OLD : Old Z n0 h0) (A : Amb Z G1 G2) (P0 : Arv Z h0 va kk .byte (6 : Int32) [(.int y0), (.int z0), (.int y1), (.int z1), (.int y2), (.int z2)] (.int (0 : Int32))) (P1 : Arv Z h0 ca kc .char (3 : Int32) [(.int (0 : Int32)), (.int (0 : Int32)), (.int (0 : Int32))] (.int (0 : Int32))) (g_ca : n0 ≤ ca) (hne : @Ne Nat va ca) :
    own_Met l my31 jdk_52_method_26_code 6 none ws (own_rm 3 0 0 43) #[(.ref va), (.int (0 : Int32)), (.int (3 : Int32)), (.ref ca), (.int (0 : Int32))] Z h0 (Q31n3 Z G1 G2 va ca kk kc y0 y1 y2 z0 z1 z2 h0 n0) 0 0 := by
  refine own_body (plainFor_of_name pn_3) (fun m => by first | (simp [entryFrame, mkF, argsToLocals, Value.category]; done) | rfl) (Ls := #[.val (.ref va), .val (.int (0 : Int32)), .val (.int (3 : Int32)), .val (.ref ca), .val (.int (0 : Int32)), .unset]) fun p e s m below meth c s₁ X0 hx hby hml hZ e0 hown hnm hlk hrt => ?_
  have N0 := Fr.nil n0
  have lt_P0 : @LT.lt Nat _ va (Array.size h0) := P0.lt
  have lt_P1 : @LT.lt Nat _ ca (Array.size h0) := P1.lt
  refine own_ru 2 [(.int (3 : Int32)), (.int (0 : Int32))] X0 hx hby e31_0_2 rfl rfl ?_
  refine own_kN 5 X0 hx (hb hby d31_2) rfl (tlt (by decide : ((0 : Int32) < (3 : Int32)))).2.1 rfl ?_
  refine own_ru 10 [(.ref va), (.int (3 : Int32)), (.int (0 : Int32))] X0 hx hby e31_5_5 rfl rfl ?_
  refine own_cS X0 hx hZ hown (wd133 hw) (wd134 hw) (by decide) (wd135 hw) (wd45 hw) (rm32 l Z a0 hw [] G1 G2 (0 : Int32) (3 : Int32) va kk (6 : Int32) [(.int y0), (.int z0), (.int y1), (.int z1), (.int y2), (.int z2)] h0 n0 (by omega) OLD A P0 (by decide) (by decide)) e0  [(.int (0 : Int32)), (.int (3 : Int32)), (.ref va)] [] 13 0 (hb hby d31_10) rfl (by rw [hml]; rfl) rfl rfl (lenOf pd_17 rfl) rfl (by decide) fun v364 T364 Lc364 X364 hQ364 => ?_
  obtain ⟨rfl, N364q, e364⟩ := hQ364
  have N364 := Fr.app N0 N364q
  refine own_rl 19 #[.val (.ref va), .val (.int (0 : Int32)), .val (.int (3 : Int32)), .val (.ref ca), .val (.int (0 : Int32)), .val (.int (0 : Int32))] [(.int (3 : Int32)), (.int (0 : Int32))] X364 hx hby e31_13_4 rfl rfl ?_
  refine own_kN 22 X364 hx (hb hby d31_19) rfl (tlt (by decide : ((0 : Int32) < (3 : Int32)))).2.1 rfl ?_
  refine own_rl 31 #[.val (.ref va), .val (.int (0 : Int32)), .val (.int (3 : Int32)), .val (.ref ca), .val (.int (1 : Int32)), .val (.int (0 : Int32))] [(.int (0 : Int32)), (.ref va), (.int (0 : Int32)), (.ref ca)] X364 hx hby e31_22_5 rfl rfl ?_
  refine own_cS X364 hx hZ hown (wd114 hw) (wd115 hw) (by decide) (wd116 hw) (wd45 hw) (rm26 l Z a0 hw [] G1 G2 va (0 : Int32) kk (6 : Int32) [(.int y0), (.int z0), (.int y1), (.int z1), (.int y2), (.int z2)] y0 z0 h0 n0 (by omega) OLD A P0 ⟨by decide, by decide⟩ ⟨by decide, by decide⟩ rfl rfl) e364  [(.ref va), (.int (0 : Int32))] [(.int (0 : Int32)), (.ref ca)] 34 2 (hb hby d31_31) rfl (by rw [hml]; rfl) rfl rfl (lenOf pd_5 rfl) rfl (by decide) fun v365 T365 Lc365 X365 hQ365 => ?_
  obtain ⟨rfl, N365q, e365⟩ := hQ365
  have N365 := Fr.app N364 N365q
  obtain ⟨cl366, Ar366, q366, S366, N366z, Hs366, G366⟩ := id P1
  have hin366 : ¬ ((0 : Int32) < 0 ∨ cl366.slots.size ≤ ((0 : Int32)).toNatClampNeg) := inb_of S366 ⟨by decide, by decide⟩
  obtain ⟨T367, h367, X367, e367, W367, st367⟩ := stC X365 hx hZ e365 Ar366 (j := (0 : Int32)) hin366 (g := (mkF m 34 #[.val (.ref va), .val (.int (0 : Int32)), .val (.int (3 : Int32)), .val (.ref ca), .val (.int (1 : Int32)), .val (.int (0 : Int32))] [(.int (own_u y0 z0)), (.int (0 : Int32)), (.ref ca)])) rfl rfl (hb hby d31_34)
  have V367 : Arv Z h367 ca kc .char (3 : Int32) [(.int (nar .char (own_u y0 z0))), (.int (0 : Int32)), (.int (0 : Int32))] (.int (0 : Int32)) := Arv.set Ar366 q366 S366 N366z Hs366 G366 (fits_nar_char _) W367 0 rfl (Nat.le_of_ble_eq_true rfl)
  have z367 := W367.size
  have KK367 : Keep h0 h367 [ca] := (Keep.refl h0 [ca]).wr W367 (Or.inl (by simp))
  have N367 := Fr.snoc X367 N365 (by omega)
  refine own_sT 35 [] st367 ?_
  refine own_rl 38 #[.val (.ref va), .val (.int (0 : Int32)), .val (.int (3 : Int32)), .val (.ref ca), .val (.int (1 : Int32)), .val (.int (1 : Int32))] [] X367 hx hby e31_35_1 rfl rfl ?_
  refine own_go 16 X367 hx (hb hby d31_38) (by decide) (by decide) ?_
  refine own_ru 19 [(.int (3 : Int32)), (.int (1 : Int32))] X367 hx hby e31_16_2 rfl rfl ?_
  refine own_kN 22 X367 hx (hb hby d31_19) rfl (tlt (by decide : ((1 : Int32) < (3 : Int32)))).2.1 rfl ?_
  refine own_rl 31 #[.val (.ref va), .val (.int (0 : Int32)), .val (.int (3 : Int32)), .val (.ref ca), .val (.int (2 : Int32)), .val (.int (1 : Int32))] [(.int (1 : Int32)), (.ref va), (.int (1 : Int32)), (.ref ca)] X367 hx hby e31_22_5 rfl rfl ?_
  have f368 := (OLD.wr W367 (by omega))
  have f369 := (P0.other W367 (own_ne (by omega)))
  refine own_cS X367 hx hZ hown (wd114 hw) (wd115 hw) (by decide) (wd116 hw) (wd45 hw) (rm26 l Z a0 hw [] G1 G2 va (1 : Int32) kk (6 : Int32) [(.int y0), (.int z0), (.int y1), (.int z1), (.int y2), (.int z2)] y1 z1 h367 n0 (by omega) f368 A f369 ⟨by decide, by decide⟩ ⟨by decide, by decide⟩ rfl rfl) e367  [(.ref va), (.int (1 : Int32))] [(.int (1 : Int32)), (.ref ca)] 34 2 (hb hby d31_31) rfl (by rw [hml]; rfl) rfl rfl (lenOf pd_5 rfl) rfl (by decide) fun v370 T370 Lc370 X370 hQ370 => ?_
  obtain ⟨rfl, N370q, e370⟩ := hQ370
  have N370 := Fr.app N367 N370q
  obtain ⟨cl371, Ar371, q371, S371, N371z, Hs371, G371⟩ := id V367
  have hin371 : ¬ ((1 : Int32) < 0 ∨ cl371.slots.size ≤ ((1 : Int32)).toNatClampNeg) := inb_of S371 ⟨by decide, by decide⟩
  obtain ⟨T372, h372, X372, e372, W372, st372⟩ := stC X370 hx hZ e370 Ar371 (j := (1 : Int32)) hin371 (g := (mkF m 34 #[.val (.ref va), .val (.int (0 : Int32)), .val (.int (3 : Int32)), .val (.ref ca), .val (.int (2 : Int32)), .val (.int (1 : Int32))] [(.int (own_u y1 z1)), (.int (1 : Int32)), (.ref ca)])) rfl rfl (hb hby d31_34)
  have V372 : Arv Z h372 ca kc .char (3 : Int32) [(.int (nar .char (own_u y0 z0))), (.int (nar .char (own_u y1 z1))), (.int (0 : Int32))] (.int (0 : Int32)) := Arv.set Ar371 q371 S371 N371z Hs371 G371 (fits_nar_char _) W372 1 rfl (Nat.le_of_ble_eq_true rfl)
  have z372 := W372.size
  have KK372 : Keep h0 h372 [ca] := KK367.wr W372 (Or.inl (by simp))
  have N372 := Fr.snoc X372 N370 (by omega)
  refine own_sT 35 [] st372 ?_
  refine own_rl 38 #[.val (.ref va), .val (.int (0 : Int32)), .val (.int (3 : Int32)), .val (.ref ca), .val (.int (2 : Int32)), .val (.int (2 : Int32))] [] X372 hx hby e31_35_1 rfl rfl ?_
  refine own_go 16 X372 hx (hb hby d31_38) (by decide) (by decide) ?_
  refine own_ru 19 [(.int (3 : Int32)), (.int (2 : Int32))] X372 hx hby e31_16_2 rfl rfl ?_
  refine own_kN 22 X372 hx (hb hby d31_19) rfl (tlt (by decide : ((2 : Int32) < (3 : Int32)))).2.1 rfl ?_
  refine own_rl 31 #[.val (.ref va), .val (.int (0 : Int32)), .val (.int (3 : Int32)), .val (.ref ca), .val (.int (3 : Int32)), .val (.int (2 : Int32))] [(.int (2 : Int32)), (.ref va), (.int (2 : Int32)), (.ref ca)] X372 hx hby e31_22_5 rfl rfl ?_
  have f373 := (f368.wr W372 (by omega))
  have f374 := (f369.other W372 (own_ne (by omega)))
  refine own_cS X372 hx hZ hown (wd114 hw) (wd115 hw) (by decide) (wd116 hw) (wd45 hw) (rm26 l Z a0 hw [] G1 G2 va (2 : Int32) kk (6 : Int32) [(.int y0), (.int z0), (.int y1), (.int z1), (.int y2), (.int z2)] y2 z2 h372 n0 (by omega) f373 A f374 ⟨by decide, by decide⟩ ⟨by decide, by decide⟩ rfl rfl) e372  [(.ref va), (.int (2 : Int32))] [(.int (2 : Int32)), (.ref ca)] 34 2 (hb hby d31_31) rfl (by rw [hml]; rfl) rfl rfl (lenOf pd_5 rfl) rfl (by decide) fun v375 T375 Lc375 X375 hQ375 => ?_
  obtain ⟨rfl, N375q, e375⟩ := hQ375
  have N375 := Fr.app N372 N375q
  obtain ⟨cl376, Ar376, q376, S376, N376z, Hs376, G376⟩ := id V372
  have hin376 : ¬ ((2 : Int32) < 0 ∨ cl376.slots.size ≤ ((2 : Int32)).toNatClampNeg) := inb_of S376 ⟨by decide, by decide⟩
  obtain ⟨T377, h377, X377, e377, W377, st377⟩ := stC X375 hx hZ e375 Ar376 (j := (2 : Int32)) hin376 (g := (mkF m 34 #[.val (.ref va), .val (.int (0 : Int32)), .val (.int (3 : Int32)), .val (.ref ca), .val (.int (3 : Int32)), .val (.int (2 : Int32))] [(.int (own_u y2 z2)), (.int (2 : Int32)), (.ref ca)])) rfl rfl (hb hby d31_34)
  have V377 : Arv Z h377 ca kc .char (3 : Int32) [(.int (nar .char (own_u y0 z0))), (.int (nar .char (own_u y1 z1))), (.int (nar .char (own_u y2 z2)))] (.int (0 : Int32)) := Arv.set Ar376 q376 S376 N376z Hs376 G376 (fits_nar_char _) W377 2 rfl (Nat.le_of_ble_eq_true rfl)
  have z377 := W377.size
  have KK377 : Keep h0 h377 [ca] := KK372.wr W377 (Or.inl (by simp))
  have N377 := Fr.snoc X377 N375 (by omega)
  refine own_sT 35 [] st377 ?_
  refine own_rl 38 #[.val (.ref va), .val (.int (0 : Int32)), .val (.int (3 : Int32)), .val (.ref ca), .val (.int (3 : Int32)), .val (.int (3 : Int32))] [] X377 hx hby e31_35_1 rfl rfl ?_
  refine own_go 16 X377 hx (hb hby d31_38) (by decide) (by decide) ?_
  refine own_ru 19 [(.int (3 : Int32)), (.int (3 : Int32))] X377 hx hby e31_16_2 rfl rfl ?_
  refine own_kY 41 X377 hx (hb hby d31_19) rfl (flt (by decide : ¬ ((3 : Int32) < (3 : Int32)))).2.1 (by decide) (by decide) ?_
  have hq378 : Q31n3 Z G1 G2 va ca kk kc y0 y1 y2 z0 z1 z2 h0 n0 none h377 _ := ⟨rfl, N377, KK377, V377⟩
  exact own_retV X377 hx hlk hrt (hb hby d31_41) e377 hq378 (by decide) (by decide)
def Q30n3 (Z : State) (G1 : Int32) (G2 : Value) (va : Addr) (kk : ClassId) (y0 : Int32) (y1 : Int32) (y2 : Int32) (z0 : Int32) (z1 : Int32) (z2 : Int32) (h0 : Heap) (n0 : Nat) (v : Option Value) (h : Heap) (L : List Loc) : Prop := ∃ ob : Addr, ∃ kc : ClassId, v = some (.ref ob) ∧ Fr n0 L ∧ Keep h0 h [] ∧ Arv Z h ob kc .char (3 : Int32) [(.int (nar .char (own_u y0 z0))), (.int (nar .char (own_u y1 z1))), (.int (nar .char (own_u y2 z2)))] (.int (0 : Int32)) ∧ (h0.size ≤ ob)
set_option maxRecDepth 65536 in
set_option maxHeartbeats 40000000 in
theorem rm30n3 (l : Launch) (Z : State) (a0 : Array Value) (hw : OW a0 Z) (ws : List Jvm.Cond) (G1 : Int32) (G2 : Value) (va : Addr) (kk : ClassId) (y0 : Int32) (y1 : Int32) (y2 : Int32) (z0 : Int32) (z1 : Int32) (z2 : Int32) (h0 : Heap) (n0 : Nat) (Z0 : n0 ≤ h0.size) (OLD : Old Z n0 h0) (A : Amb Z G1 G2) (P0 : Arv Z h0 va kk .byte (6 : Int32) [(.int y0), (.int z0), (.int y1), (.int z1), (.int y2), (.int z2)] (.int (0 : Int32))) :
    own_Met l my30 jdk_52_method_13_code 2 (some (.array .char)) ws (own_rm 4 1 3 60) #[(.ref va)] Z h0 (Q30n3 Z G1 G2 va kk y0 y1 y2 z0 z1 z2 h0 n0) 1 3 := by
  refine own_body (plainFor_of_name pn_3) (fun m => by first | (simp [entryFrame, mkF, argsToLocals, Value.category]; done) | rfl) (Ls := #[.val (.ref va), .unset]) fun p e s m below meth c s₁ X0 hx hby hml hZ e0 hown hnm hlk hrt => ?_
  have N0 := Fr.nil n0
  have lt_P0 : @LT.lt Nat _ va (Array.size h0) := P0.lt
  refine own_ru 1 [(.ref va)] X0 hx hby e30_0_1 rfl rfl ?_
  refine own_aL X0 hx hZ e0 P0 2 rfl (hb hby d30_1) rfl ?_
  refine own_ru 4 [(.int (3 : Int32))] X0 hx hby e30_2_2 rfl rfl ?_
  refine own_nP (aty := .char) X0 hx hZ (wd5 hw) e0 6 (hb hby d30_4) rfl rfl (by decide) (cap := 3) (by decide) (by decide) (by decide) (by decide) (ad := "[C") rfl fun T379 h379 k379 b379 g379 X379 e379 E379 A379 B379 => ?_
  have ll379 : @LT.lt Nat _ b379 (Array.size h379) := A379.lt
  have KK379 : Keep h0 h379 [] := (Keep.refl h0 []).ext E379
  have z379 := E379.1
  have V379 : Arv Z h379 b379 k379 .char (3 : Int32) [(.int (0 : Int32)), (.int (0 : Int32)), (.int (0 : Int32))] (.int (0 : Int32)) := (Arv.new A379 (by decide)).pad (pad_rep [] (.int (0 : Int32)) 3)
  refine own_rl 10 #[.val (.ref va), .val (.ref b379)] [(.ref b379), (.int (0 : Int32)), (.ref va)] X379 hx hby e30_6_4 rfl rfl ?_
  refine own_aL X379 hx hZ e379 V379 11 rfl (hb hby d30_10) rfl ?_
  refine own_ru 13 [(.int (0 : Int32)), (.ref b379), (.int (3 : Int32)), (.int (0 : Int32)), (.ref va)] X379 hx hby e30_11_2 rfl rfl ?_
  have f380 := (OLD.ext E379)
  have f381 := (P0.ext E379)
  refine own_cS X379 hx hZ hown (wd130 hw) (wd131 hw) (by decide) (wd132 hw) (wd45 hw) (rm31n3 l Z a0 hw [] G1 G2 va b379 kk k379 y0 y1 y2 z0 z1 z2 h379 n0 (by omega) f380 A f381 V379 (by omega) (by first | assumption | decide | omega)) e379  [(.ref va), (.int (0 : Int32)), (.int (3 : Int32)), (.ref b379), (.int (0 : Int32))] [] 16 0 (hb hby d30_13) rfl (by rw [hml]; rfl) rfl rfl (lenOf pd_18 rfl) rfl (by decide) fun v382 T382 Lc382 X382 hQ382 => ?_
  obtain ⟨rfl, N382q, K382, G382_0⟩ := hQ382
  have N382 := Fr.app N0 N382q
  have z382 := K382.1
  have KK382 : Keep h0 T382.heap [] := KK379.trans K382 (allS (Or.inr (by omega)) all0)
  have lt382_0 : @LT.lt Nat _ b379 (Array.size T382.heap) := G382_0.lt
  refine own_ru 17 [(.ref b379)] X382 hx hby e30_16_1 rfl rfl ?_
  have hq383 : Q30n3 Z G1 G2 va kk y0 y1 y2 z0 z1 z2 h0 n0 (some (.ref b379)) T382.heap _ := ⟨b379, k379, rfl, N382, KK382, G382_0, (by first | omega | assumption)⟩
  exact own_retR X382 hx hlk (w := (.ref b379)) rfl hrt rfl (hb hby d30_17) rfl hq383 (by decide) (by decide)
def Q19n30 (Z : State) (G1 : Int32) (G2 : Value) (s1 : Addr) (ta : Addr) (kt : ClassId) (y0 : Int32) (y1 : Int32) (y2 : Int32) (h0 : Heap) (n0 : Nat) (v : Option Value) (h : Heap) (L : List Loc) : Prop := ∃ ob : Addr, ∃ kc : ClassId, v = some (.ref ob) ∧ Fr n0 L ∧ Keep h0 h [] ∧ Arv Z h ob kc .char (3 : Int32) [(.int (own_lc y0)), (.int (own_lc y1)), (.int (own_lc y2))] (.int (0 : Int32)) ∧ (h0.size ≤ ob)
set_option maxRecDepth 65536 in
set_option maxHeartbeats 40000000 in
theorem rm19n30 (l : Launch) (Z : State) (a0 : Array Value) (hw : OW a0 Z) (ws : List Jvm.Cond) (G1 : Int32) (G2 : Value) (s1 : Addr) (ta : Addr) (kt : ClassId) (y0 : Int32) (y1 : Int32) (y2 : Int32) (h0 : Heap) (n0 : Nat) (Z0 : n0 ≤ h0.size) (OLD : Old Z n0 h0) (A : Amb Z G1 G2) (P0 : ex1 Z h0 s1) (P1 : fl2 Z h0 s1 (.ref ta)) (P2 : fl0 Z h0 s1 (.int (0 : Int32))) (P3 : Arv Z h0 ta kt .byte (3 : Int32) [(.int y0), (.int y1), (.int y2)] (.int (0 : Int32))) :
    own_Met l my19 jdk_42_method_129_code 1 (some (.array .char)) ws (own_rm 2 1 3 30) #[(.ref s1)] Z h0 (Q19n30 Z G1 G2 s1 ta kt y0 y1 y2 h0 n0) 1 3 := by
  refine own_body (plainFor_of_name pn_2) (fun m => by first | (simp [entryFrame, mkF, argsToLocals, Value.category]; done) | rfl) (Ls := #[.val (.ref s1)]) fun p e s m below meth c s₁ X0 hx hby hml hZ e0 hown hnm hlk hrt => ?_
  have N0 := Fr.nil n0
  have lt_P0 : @LT.lt Nat _ s1 (Array.size h0) := P0.lt
  have lt_P3 : @LT.lt Nat _ ta (Array.size h0) := P3.lt
  refine own_ru 1 [(.ref s1)] X0 hx hby e19_0_1 rfl rfl ?_
  refine own_cV X0 hx hZ hown (wd58 hw) (wd59 hw) (notFace_of_selects (args := #[]) (mvT hZ (wd61 hw))) (wd61 hw) (wd60 hw) (by decide) (wd62 hw) (wd8 hw) (rm12d0 l Z a0 hw [] G1 G2 s1 h0 n0 (by omega) OLD A P2) e0 P0 [] [] 4 0 (hb hby d19_1) rfl (by rw [hml]; rfl) rfl rfl (lenOf pd_6 rfl) rfl (by decide) fun v384 T384 Lc384 X384 hQ384 => ?_
  obtain ⟨rfl, N384q, e384⟩ := hQ384
  have N384 := Fr.app N0 N384q
  refine own_iN 7 X384 hx (hb hby d19_4) rfl ((if0 _ _).trans (feq (by decide : ¬ ((1 : Int32) = (0 : Int32)))).1) rfl ?_
  refine own_ru 8 [(.ref s1)] X384 hx hby e19_7_1 rfl rfl ?_
  refine own_gF X384 hx hZ hown (host := "") (Or.inl (wd25 hw)) Via.refl e384 P1 11 rfl (hb hby d19_8) rfl fun T385 X385 e385 => ?_
  refine own_cS X385 hx hZ hown (wd90 hw) (wd91 hw) (by decide) (wd92 hw) (wd65 hw) (rm20n3 l Z a0 hw [] ta kt y0 y1 y2 h0 n0 (by omega) P3) e385  [(.ref ta)] [] 14 0 (hb hby d19_11) rfl (by rw [hml]; rfl) rfl rfl (lenOf pd_19 rfl) rfl (by decide) fun v386 T386 Lc386 X386 hQ386 => ?_
  obtain ⟨ob_386, kc_386, rfl, N386q, K386, G386_0, U386_0⟩ := hQ386
  have N386 := Fr.app N384 N386q
  have z386 := K386.1
  have KK386 : Keep h0 T386.heap [] := (Keep.refl h0 []).trans K386 all0
  have lt386_0 : @LT.lt Nat _ ob_386 (Array.size T386.heap) := G386_0.lt
  refine own_go 24 X386 hx (hb hby d19_14) (by decide) (by decide) ?_
  have hq387 : Q19n30 Z G1 G2 s1 ta kt y0 y1 y2 h0 n0 (some (.ref ob_386)) T386.heap _ := ⟨ob_386, kc_386, rfl, N386, KK386, G386_0, (by first | omega | assumption)⟩
  exact own_retR X386 hx hlk (w := (.ref ob_386)) rfl hrt rfl (hb hby d19_24) rfl hq387 (by decide) (by decide)
def Q19n31 (Z : State) (G1 : Int32) (G2 : Value) (s1 : Addr) (ta : Addr) (kt : ClassId) (y0 : Int32) (y1 : Int32) (y2 : Int32) (z0 : Int32) (z1 : Int32) (z2 : Int32) (h0 : Heap) (n0 : Nat) (v : Option Value) (h : Heap) (L : List Loc) : Prop := ∃ ob : Addr, ∃ kc : ClassId, v = some (.ref ob) ∧ Fr n0 L ∧ Keep h0 h [] ∧ Arv Z h ob kc .char (3 : Int32) [(.int (nar .char (own_u y0 z0))), (.int (nar .char (own_u y1 z1))), (.int (nar .char (own_u y2 z2)))] (.int (0 : Int32)) ∧ (h0.size ≤ ob)
set_option maxRecDepth 65536 in
set_option maxHeartbeats 40000000 in
theorem rm19n31 (l : Launch) (Z : State) (a0 : Array Value) (hw : OW a0 Z) (ws : List Jvm.Cond) (G1 : Int32) (G2 : Value) (s1 : Addr) (ta : Addr) (kt : ClassId) (y0 : Int32) (y1 : Int32) (y2 : Int32) (z0 : Int32) (z1 : Int32) (z2 : Int32) (h0 : Heap) (n0 : Nat) (Z0 : n0 ≤ h0.size) (OLD : Old Z n0 h0) (A : Amb Z G1 G2) (P0 : ex1 Z h0 s1) (P1 : fl2 Z h0 s1 (.ref ta)) (P2 : fl0 Z h0 s1 (.int (1 : Int32))) (P3 : Arv Z h0 ta kt .byte (6 : Int32) [(.int y0), (.int z0), (.int y1), (.int z1), (.int y2), (.int z2)] (.int (0 : Int32))) :
    own_Met l my19 jdk_42_method_129_code 1 (some (.array .char)) ws (own_rm 5 1 3 73) #[(.ref s1)] Z h0 (Q19n31 Z G1 G2 s1 ta kt y0 y1 y2 z0 z1 z2 h0 n0) 1 3 := by
  refine own_body (plainFor_of_name pn_2) (fun m => by first | (simp [entryFrame, mkF, argsToLocals, Value.category]; done) | rfl) (Ls := #[.val (.ref s1)]) fun p e s m below meth c s₁ X0 hx hby hml hZ e0 hown hnm hlk hrt => ?_
  have N0 := Fr.nil n0
  have lt_P0 : @LT.lt Nat _ s1 (Array.size h0) := P0.lt
  have lt_P3 : @LT.lt Nat _ ta (Array.size h0) := P3.lt
  refine own_ru 1 [(.ref s1)] X0 hx hby e19_0_1 rfl rfl ?_
  refine own_cV X0 hx hZ hown (wd58 hw) (wd59 hw) (notFace_of_selects (args := #[]) (mvT hZ (wd61 hw))) (wd61 hw) (wd60 hw) (by decide) (wd62 hw) (wd8 hw) (rm12d1 l Z a0 hw [] G1 G2 s1 h0 n0 (by omega) OLD A P2) e0 P0 [] [] 4 0 (hb hby d19_1) rfl (by rw [hml]; rfl) rfl rfl (lenOf pd_6 rfl) rfl (by decide) fun v388 T388 Lc388 X388 hQ388 => ?_
  obtain ⟨rfl, N388q, e388⟩ := hQ388
  have N388 := Fr.app N0 N388q
  refine own_iY 17 X388 hx (hb hby d19_4) rfl ((if0 _ _).trans (teq (by decide : ((0 : Int32) = (0 : Int32)))).1) (by decide) (by decide) ?_
  refine own_ru 18 [(.ref s1)] X388 hx hby e19_17_1 rfl rfl ?_
  refine own_gF X388 hx hZ hown (host := "") (Or.inl (wd25 hw)) Via.refl e388 P1 21 rfl (hb hby d19_18) rfl fun T389 X389 e389 => ?_
  refine own_cS X389 hx hZ hown (wd127 hw) (wd128 hw) (by decide) (wd129 hw) (wd45 hw) (rm30n3 l Z a0 hw [] G1 G2 ta kt y0 y1 y2 z0 z1 z2 h0 n0 (by omega) OLD A P3) e389  [(.ref ta)] [] 24 0 (hb hby d19_21) rfl (by rw [hml]; rfl) rfl rfl (lenOf pd_19 rfl) rfl (by decide) fun v390 T390 Lc390 X390 hQ390 => ?_
  obtain ⟨ob_390, kc_390, rfl, N390q, K390, G390_0, U390_0⟩ := hQ390
  have N390 := Fr.app N388 N390q
  have z390 := K390.1
  have KK390 : Keep h0 T390.heap [] := (Keep.refl h0 []).trans K390 all0
  have lt390_0 : @LT.lt Nat _ ob_390 (Array.size T390.heap) := G390_0.lt
  have hq391 : Q19n31 Z G1 G2 s1 ta kt y0 y1 y2 z0 z1 z2 h0 n0 (some (.ref ob_390)) T390.heap _ := ⟨ob_390, kc_390, rfl, N390, KK390, G390_0, (by first | omega | assumption)⟩
  exact own_retR X390 hx hlk (w := (.ref ob_390)) rfl hrt rfl (hb hby d19_24) rfl hq391 (by decide) (by decide)
theorem own_strAtoms : ∀ d ∈ Bundle.stringAtoms, d ∈ tables_1 := by decide +kernel
theorem d3_9 : decode jdk_42_method_149_code 9 = .ok (.ldc 7, 2) := by decide +kernel
theorem d3_11 : decode jdk_42_method_149_code 11 = .ok (.getfield 9, 3) := by decide +kernel
theorem d3_14 : decode jdk_42_method_149_code 14 = .ok (.putfield 9, 3) := by decide +kernel
theorem d3_18 : decode jdk_42_method_149_code 18 = .ok (.ldc 7, 2) := by decide +kernel
theorem d3_20 : decode jdk_42_method_149_code 20 = .ok (.getfield 15, 3) := by decide +kernel
theorem d3_23 : decode jdk_42_method_149_code 23 = .ok (.putfield 15, 3) := by decide +kernel
theorem d3_26 : decode jdk_42_method_149_code 26 = .ok (.return_, 1) := by decide +kernel
theorem e3_8_1 : own_dec jdk_42_method_149_code 8 [(.aload_n 0, 1)] = true := by decide +kernel
theorem e3_17_1 : own_dec jdk_42_method_149_code 17 [(.aload_n 0, 1)] = true := by decide +kernel
def Q3z (Z : State) (G1 : Int32) (G2 : Value) (s1 : Addr) (ca : Addr) (h0 : Heap) (n0 : Nat) (v : Option Value) (h : Heap) (L : List Loc) : Prop := ∃ tb : Addr, ∃ kb : ClassId, v = none ∧ Fr n0 L ∧ Keep h0 h [s1] ∧ ex1 Z h s1 ∧ fl2 Z h s1 (.ref tb) ∧ fl0 Z h s1 (.int (0 : Int32)) ∧ Arv Z h tb kb .byte (0 : Int32) [] (.int (0 : Int32))
set_option maxRecDepth 65536 in
set_option maxHeartbeats 40000000 in
theorem rm3z (l : Launch) (Z : State) (a0 : Array Value) (hw : OW a0 Z) (ws : List Jvm.Cond) (G1 : Int32) (G2 : Value) (s1 : Addr) (ca : Addr) (h0 : Heap) (n0 : Nat) (Z0 : n0 ≤ h0.size) (OLD : Old Z n0 h0) (A : Amb Z G1 G2) (P0 : ex1 Z h0 s1) (P1 : fl2 Z h0 s1 .null) (P2 : fl0 Z h0 s1 (.int (0 : Int32))) (g_s1 : n0 ≤ s1) :
    own_MetW l my3 jdk_42_method_149_code 6 none ws (own_rm 1 2 4 12) #[(.ref s1), (.ref ca), (.int (0 : Int32)), (.int (0 : Int32)), .null] Z h0 (Q3z Z G1 G2 s1 ca h0 n0) 2 4 := by
  refine own_bodyW (plainFor_of_name pn_2) (fun m => by first | (simp [entryFrame, mkF, argsToLocals, Value.category]; done) | rfl) (Ls := #[.val (.ref s1), .val (.ref ca), .val (.int (0 : Int32)), .val (.int (0 : Int32)), .val .null, .unset]) fun p e s m below meth c s₁ X0 hx hby hml hZ e0 hown hnm hlk hrt hsh hIB => ?_
  have N0 := Fr.nil n0
  have lt_P0 : @LT.lt Nat _ s1 (Array.size h0) := P0.lt
  refine own_ru 1 [(.ref s1)] X0 hx hby e3_0_1 rfl rfl ?_
  refine own_iO X0 hx hZ hown (wd16 hw) (wd17 hw) (wd18 hw) e0 4 0 (by rw [hml]; rfl) rfl (hb hby d3_1) rfl (by decide) rfl (by decide) fun T392 X392 e392 => ?_
  refine own_ru 5 [(.int (0 : Int32))] X392 hx hby e3_4_1 rfl rfl ?_
  refine own_iN 8 X392 hx (hb hby d3_5) rfl ((if0 _ _).trans (teq (by decide : ((0 : Int32) = (0 : Int32)))).2) rfl ?_
  refine own_ru 9 [(.ref s1)] X392 hx hby e3_8_1 rfl rfl ?_
  obtain ⟨a393, T393, h393, k1393, b393, kv393, X393, e393, E393, hSi, hk393, hZ, hown, A393, Fc393, Fv393, V393, la393, lb393, -, Lt, st393⟩ := ldcSVL (s := s) (vm0 := s.vm) (own := "java/lang/String") (text := "") (index := 7) (vs := []) (z := (0 : Int32)) (n := 0) (Ts := []) X392 hx hZ hown (wd19 hw) (fun d hd => hw d (own_strAtoms d hd)) e392 ((State.WarmedH.refl s).since h0.size) (Nat.le_refl _) (Fr.nil _) (fun b cl q => by rw [hsh]; exact OLD.2.2 b cl q) hIB (by simp) (Amb.held A) (Amb.cw A) ⟨by simp, by simp⟩ (by decide) rfl (g := (mkF m 9 #[.val (.ref s1), .val (.ref ca), .val (.int (0 : Int32)), .val (.int (0 : Int32)), .val .null, .unset] [(.ref s1)])) rfl (hb hby d3_9) (by simp) (by decide) (by decide) (by decide)
  have KK393 : Keep h0 h393 [s1] := (Keep.refl h0 [s1]).ext E393
  have z393 := E393.1
  have f394 := (Fld.ext E393 P1)
  have f395 := (Exa.ext E393 P0)
  have hna : @Ne Nat a393 s1 := own_fldNe Fv393 f394 (by simp)
  have hnb : @Ne Nat s1 b393 := Exa.neArv f395 V393 (wd7 hw)
  refine own_sT 11 [(.ref a393), (.ref s1)] st393 ?_
  refine own_gF X393 hx hZ hown (host := "") (Or.inl (wd25 hw)) Via.refl e393 Fv393 14 rfl (hb hby d3_11) rfl fun T396 X396 e396 => ?_
  refine own_pF X396 hx hZ hown (host := "") (Or.inl (wd25 hw)) Via.refl e396 f394 f395 (Or.inr ⟨(wd21 hw), rfl, hnm⟩) (wd7 hw) (ty := (.array .byte)) (by decide) rfl rfl 17 rfl (hb hby d3_14) rfl fun T397 h397 X397 e397 W397 => ?_
  have F397 := Fld.same W397 f394
  have z397 := W397.size
  have KK397 : Keep h0 h397 [s1] := KK393.wr W397 (Or.inl (by simp))
  have N397 := Fr.snoc X397 N0 (by omega)
  refine own_ru 18 [(.ref s1)] X397 hx hby e3_17_1 rfl rfl ?_
  refine own_st 20 [(.ref a393), (.ref s1)] (ldcAgain X397 hx hZ hown (wd19 hw) Lt (g := (mkF m 18 #[.val (.ref s1), .val (.ref ca), .val (.int (0 : Int32)), .val (.int (0 : Int32)), .val .null, .unset] [(.ref s1)])) rfl (hb hby d3_18)) ?_
  have f398 := (Fld.other W397 Fc393 (Or.inl (own_ne (by omega))))
  refine own_gF X397 hx hZ hown (host := "") (Or.inl (wd26 hw)) Via.refl e397 f398 23 rfl (hb hby d3_20) rfl fun T399 X399 e399 => ?_
  have f400 := (Exa.wr W397 f395)
  have f401 := (Fld.other W397 (Fld.ext E393 P2) (Or.inr (slot_ne (Or.inr (wd22 hw)) (Or.inr (wd21 hw)) (by decide) (t := .byte) (t' := (.array .byte)) (by decide) (by decide))))
  refine own_pN X399 hx hZ hown (wd26 hw) Via.refl e399 f401 f400 (Or.inr ⟨(wd22 hw), rfl, hnm⟩) (wd7 hw) (ty := .byte) (v' := (.int (0 : Int32))) (by decide) rfl (by decide) 26 rfl (hb hby d3_23) rfl fun T402 h402 X402 e402 W402 => ?_
  have F402 := Fld.same W402 f401
  have z402 := W402.size
  have KK402 : Keep h0 h402 [s1] := KK397.wr W402 (Or.inl (by simp))
  have N402 := Fr.snoc X402 N397 (by omega)
  have f404 := (Exa.wr W402 f400)
  have f405 := (Fld.other W402 F397 (Or.inr (slot_ne (Or.inr (wd21 hw)) (Or.inr (wd22 hw)) (by decide) (t := (.array .byte)) (t' := .byte) (by decide) (by decide))))
  have f406 := ((V393.other W397 (own_ne (by omega))).other W402 (own_ne (by omega)))
  have hq403 : Q3z Z G1 G2 s1 ca h0 n0 none h402 _ := ⟨b393, kv393, rfl, N402, KK402, f404, f405, F402, f406⟩
  exact own_retVW X402 hx hlk hSi (by rw [e402]; omega) hrt (hb hby d3_26) e402 hq403 (by decide) (by decide)
def Q2z (Z : State) (G1 : Int32) (G2 : Value) (s1 : Addr) (ca : Addr) (kc : ClassId) (h0 : Heap) (n0 : Nat) (v : Option Value) (h : Heap) (L : List Loc) : Prop := ∃ tb : Addr, ∃ kb : ClassId, v = none ∧ Fr n0 L ∧ Keep h0 h [s1] ∧ ex1 Z h s1 ∧ fl2 Z h s1 (.ref tb) ∧ fl0 Z h s1 (.int (0 : Int32)) ∧ Arv Z h tb kb .byte (0 : Int32) [] (.int (0 : Int32))
set_option maxRecDepth 65536 in
set_option maxHeartbeats 40000000 in
theorem rm2z (l : Launch) (Z : State) (a0 : Array Value) (hw : OW a0 Z) (ws : List Jvm.Cond) (G1 : Int32) (G2 : Value) (s1 : Addr) (ca : Addr) (kc : ClassId) (h0 : Heap) (n0 : Nat) (Z0 : n0 ≤ h0.size) (OLD : Old Z n0 h0) (A : Amb Z G1 G2) (P0 : ex1 Z h0 s1) (P1 : fl2 Z h0 s1 .null) (P2 : fl0 Z h0 s1 (.int (0 : Int32))) (P3 : Arv Z h0 ca kc .char (0 : Int32) [] (.int (0 : Int32))) (g_s1 : n0 ≤ s1) :
    own_MetW l my2 jdk_42_method_3_code 2 none ws (own_rm 2 2 4 29) #[(.ref s1), (.ref ca)] Z h0 (Q2z Z G1 G2 s1 ca kc h0 n0) 2 4 := by
  refine own_bodyW (plainFor_of_name pn_2) (fun m => by first | (simp [entryFrame, mkF, argsToLocals, Value.category]; done) | rfl) (Ls := #[.val (.ref s1), .val (.ref ca)]) fun p e s m below meth c s₁ X0 hx hby hml hZ e0 hown hnm hlk hrt hsh hIB => ?_
  have N0 := Fr.nil n0
  have lt_P0 : @LT.lt Nat _ s1 (Array.size h0) := P0.lt
  have lt_P3 : @LT.lt Nat _ ca (Array.size h0) := P3.lt
  refine own_ru 4 [(.ref ca), (.int (0 : Int32)), (.ref ca), (.ref s1)] X0 hx hby e2_0_4 rfl rfl ?_
  refine own_aL X0 hx hZ e0 P3 5 rfl (hb hby d2_4) rfl ?_
  refine own_ru 6 [.null, (.int (0 : Int32)), (.int (0 : Int32)), (.ref ca), (.ref s1)] X0 hx hby e2_5_1 rfl rfl ?_
  refine own_cNW X0 hx hZ hown rfl (wd12 hw) (wd13 hw) (by decide) (wd15 hw) (wd8 hw) hIB (rm3z l Z a0 hw [] G1 G2 s1 ca h0 n0 (by omega) OLD A P0 P1 P2 (by omega)) e0 [(.ref ca), (.int (0 : Int32)), (.int (0 : Int32)), .null] [] 9 0 (hb hby d2_6) rfl (by rw [hml]; rfl) rfl rfl (lenOf pd_13 rfl) rfl (by decide) fun v407 T407 Lc407 X407 hSi hZ hown hQ407 => ?_
  obtain ⟨tb_407, kb_407, rfl, N407q, K407, G407_0, G407_1, G407_2, G407_3⟩ := hQ407
  have N407 := Fr.app N0 N407q
  have z407 := K407.1
  have KK407 : Keep h0 T407.heap [s1] := (Keep.refl h0 [s1]).trans K407 (allS (Or.inl (by simp)) all0)
  have lt407_0 : @LT.lt Nat _ s1 (Array.size T407.heap) := G407_0.lt
  have lt407_3 : @LT.lt Nat _ tb_407 (Array.size T407.heap) := G407_3.lt
  have hq408 : Q2z Z G1 G2 s1 ca kc h0 n0 none T407.heap _ := ⟨tb_407, kb_407, rfl, N407, KK407, G407_0, G407_1, G407_2, G407_3⟩
  exact own_retVW X407 hx hlk hSi (by omega) hrt (hb hby d2_9) rfl hq408 (by decide) (by decide)
abbrev my5 : MethodName := (⟨"com/example/annotree/annotree/tree/AsciiCase", "lowerCase", "(Ljava/lang/String;)Ljava/lang/String;"⟩ : MethodName)
theorem d5_6 : decode prog_14_method_2_code 6 = .ok (.invokevirtual 7, 3) := by decide +kernel
theorem d5_9 : decode prog_14_method_2_code 9 = .ok (.if_icmp .ge 39, 3) := by decide +kernel
theorem d5_49 : decode prog_14_method_2_code 49 = .ok (.ifnonnull 7, 3) := by decide +kernel
theorem d5_53 : decode prog_14_method_2_code 53 = .ok (.goto 11, 3) := by decide +kernel
theorem d5_64 : decode prog_14_method_2_code 64 = .ok (.areturn, 1) := by decide +kernel
theorem e5_0_6 : own_dec prog_14_method_2_code 0 [(.aconst_null, 1), (.astore_n 1, 1), (.iconst 0, 1), (.istore_n 2, 1), (.iload_n 2, 1), (.aload_n 0, 1)] = true := by decide +kernel
theorem e5_48_1 : own_dec prog_14_method_2_code 48 [(.aload_n 1, 1)] = true := by decide +kernel
theorem e5_52_1 : own_dec prog_14_method_2_code 52 [(.aload_n 0, 1)] = true := by decide +kernel
theorem pd_20 : parseMethodDescriptor "()I" = some ⟨[], some .int⟩ := by decide +kernel
def Q5z (Z : State) (G1 : Int32) (G2 : Value) (s1 : Addr) (ta : Addr) (kt : ClassId) (h0 : Heap) (n0 : Nat) (v : Option Value) (h : Heap) (L : List Loc) : Prop := v = some (.ref s1) ∧ Fr n0 L ∧ h = h0
set_option maxRecDepth 65536 in
set_option maxHeartbeats 40000000 in
theorem rm5z (l : Launch) (Z : State) (a0 : Array Value) (hw : OW a0 Z) (ws : List Jvm.Cond) (G1 : Int32) (G2 : Value) (s1 : Addr) (ta : Addr) (kt : ClassId) (h0 : Heap) (n0 : Nat) (Z0 : n0 ≤ h0.size) (OLD : Old Z n0 h0) (A : Amb Z G1 G2) (P0 : ex1 Z h0 s1) (P1 : fl2 Z h0 s1 (.ref ta)) (P2 : fl0 Z h0 s1 (.int (0 : Int32))) (P3 : Arv Z h0 ta kt .byte (0 : Int32) [] (.int (0 : Int32))) :
    own_Met l my5 prog_14_method_2_code 4 (some (.object "java/lang/String")) ws (own_rm 2 0 0 26) #[(.ref s1)] Z h0 (Q5z Z G1 G2 s1 ta kt h0 n0) 0 0 := by
  refine own_body (plainFor_of_name pn_1) (fun m => by first | (simp [entryFrame, mkF, argsToLocals, Value.category]; done) | rfl) (Ls := #[.val (.ref s1), .unset, .unset, .unset]) fun p e s m below meth c s₁ X0 hx hby hml hZ e0 hown hnm hlk hrt => ?_
  have N0 := Fr.nil n0
  have lt_P0 : @LT.lt Nat _ s1 (Array.size h0) := P0.lt
  have lt_P3 : @LT.lt Nat _ ta (Array.size h0) := P3.lt
  refine own_rl 6 #[.val (.ref s1), .val .null, .val (.int (0 : Int32)), .unset] [(.ref s1), (.int (0 : Int32))] X0 hx hby e5_0_6 rfl rfl ?_
  refine own_cV X0 hx hZ hown (wd31 hw) (wd32 hw) (notFace_of_selects (args := #[]) (mvT hZ (wd34 hw))) (wd34 hw) (wd33 hw) (by decide) (wd35 hw) (wd8 hw) (rm6d0 l Z a0 hw [] G1 G2 s1 ta kt (0 : Int32) [] h0 n0 (by omega) OLD A P0 P1 P2 P3) e0 P0 [] [(.int (0 : Int32))] 9 1 (hb hby d5_6) rfl (by rw [hml]; rfl) rfl rfl (lenOf pd_20 rfl) rfl (by decide) fun v409 T409 Lc409 X409 hQ409 => ?_
  obtain ⟨rfl, N409q, e409⟩ := hQ409
  have N409 := Fr.app N0 N409q
  refine own_kY 48 X409 hx (hb hby d5_9) rfl (flt (by decide : ¬ ((0 : Int32) < (0 : Int32)))).2.1 (by decide) (by decide) ?_
  refine own_ru 49 [.null] X409 hx hby e5_48_1 rfl rfl ?_
  refine own_st 52 [] (fun t k => XS.ifnonnullNo X409.here hx rfl (hb hby d5_49) rfl k) ?_
  refine own_ru 53 [(.ref s1)] X409 hx hby e5_52_1 rfl rfl ?_
  refine own_go 64 X409 hx (hb hby d5_53) (by decide) (by decide) ?_
  have hq410 : Q5z Z G1 G2 s1 ta kt h0 n0 (some (.ref s1)) h0 _ := ⟨rfl, N409, rfl⟩
  exact own_retR X409 hx hlk (w := (.ref s1)) rfl hrt rfl (hb hby d5_64) e409 hq410 (by decide) (by decide)
theorem own_nup {q : Int32} (h : ¬ own_up q) : q = own_low q := by
  unfold own_low
  by_cases h1 : q < (65 : Int32)
  · rw [if_pos h1]
  · by_cases h2 : (90 : Int32) < q
    · rw [if_neg h1, if_pos h2]
    · exact absurd ⟨h1, h2⟩ h
theorem own_l4 {q z : Int32} (hv : z = (q &&& (3 : Int32))) : z = (0 : Int32) ∨ z = (1 : Int32) ∨ z = (2 : Int32) ∨ z = (3 : Int32) := by
  have h1 := c_mask q 3 2 (by decide) (by decide)
  have e : ((2 ^ 2 : Nat) : Int) = 4 := rfl
  rw [← hv, e] at h1
  have h7 : z.toInt = 0 ∨ z.toInt = 1 ∨ z.toInt = 2 ∨ z.toInt = 3 := by omega
  rcases h7 with h | h | h | h
  · exact Or.inl (own_lit 0 h)
  · exact Or.inr (Or.inl (own_lit 1 h))
  · exact Or.inr (Or.inr (Or.inl (own_lit 2 h)))
  · exact Or.inr (Or.inr (Or.inr (own_lit 3 h)))

def own_Res1 (Z : State) (h : Heap) (so s1 : Addr) (x0 : Int32) : Prop := (so = s1 ∧ x0 = own_low x0) ∨ (own_Str1 Z h so (own_low x0) ∧ ¬ (x0 = own_low x0))
def own_Res2 (Z : State) (h : Heap) (so s1 : Addr) (x0 : Int32) (x1 : Int32) : Prop := (so = s1 ∧ x0 = own_low x0 ∧ x1 = own_low x1) ∨ (own_Str2 Z h so (own_low x0) (own_low x1) ∧ ¬ (x0 = own_low x0 ∧ x1 = own_low x1))
def own_Res3 (Z : State) (h : Heap) (so s1 : Addr) (x0 : Int32) (x1 : Int32) (x2 : Int32) : Prop := (so = s1 ∧ x0 = own_low x0 ∧ x1 = own_low x1 ∧ x2 = own_low x2) ∨ (own_Str3 Z h so (own_low x0) (own_low x1) (own_low x2) ∧ ¬ (x0 = own_low x0 ∧ x1 = own_low x1 ∧ x2 = own_low x2))
theorem d5_14 : decode prog_14_method_2_code 14 = .ok (.invokevirtual 13, 3) := by decide +kernel
theorem d5_20 : decode prog_14_method_2_code 20 = .ok (.invokestatic 17, 3) := by decide +kernel
theorem d5_23 : decode prog_14_method_2_code 23 = .ok (.if_icmp .eq 19, 3) := by decide +kernel
theorem d5_27 : decode prog_14_method_2_code 27 = .ok (.ifnonnull 8, 3) := by decide +kernel
theorem d5_31 : decode prog_14_method_2_code 31 = .ok (.invokevirtual 23, 3) := by decide +kernel
theorem d5_38 : decode prog_14_method_2_code 38 = .ok (.invokestatic 17, 3) := by decide +kernel
theorem d5_41 : decode prog_14_method_2_code 41 = .ok (.castore, 1) := by decide +kernel
theorem d5_45 : decode prog_14_method_2_code 45 = .ok (.goto (-41), 3) := by decide +kernel
theorem d5_56 : decode prog_14_method_2_code 56 = .ok (.new 8, 3) := by decide +kernel
theorem d5_61 : decode prog_14_method_2_code 61 = .ok (.invokespecial 27, 3) := by decide +kernel
theorem e5_12_2 : own_dec prog_14_method_2_code 12 [(.aload_n 0, 1), (.iload_n 2, 1)] = true := by decide +kernel
theorem e5_17_3 : own_dec prog_14_method_2_code 17 [(.istore_n 3, 1), (.iload_n 3, 1), (.iload_n 3, 1)] = true := by decide +kernel
theorem e5_42_1 : own_dec prog_14_method_2_code 42 [(.iinc 2 1, 3)] = true := by decide +kernel
theorem e5_4_2 : own_dec prog_14_method_2_code 4 [(.iload_n 2, 1), (.aload_n 0, 1)] = true := by decide +kernel
theorem e5_26_1 : own_dec prog_14_method_2_code 26 [(.aload_n 1, 1)] = true := by decide +kernel
theorem e5_30_1 : own_dec prog_14_method_2_code 30 [(.aload_n 0, 1)] = true := by decide +kernel
theorem e5_34_4 : own_dec prog_14_method_2_code 34 [(.astore_n 1, 1), (.aload_n 1, 1), (.iload_n 2, 1), (.iload_n 3, 1)] = true := by decide +kernel
theorem e5_59_2 : own_dec prog_14_method_2_code 59 [(.dup, 1), (.aload_n 1, 1)] = true := by decide +kernel
theorem pd_21 : parseMethodDescriptor "(I)C" = some ⟨[.int], some .char⟩ := by decide +kernel
theorem pd_22 : parseMethodDescriptor "(C)C" = some ⟨[.char], some .char⟩ := by decide +kernel
theorem pd_23 : parseMethodDescriptor "()[C" = some ⟨[], some (.array .char)⟩ := by decide +kernel
theorem pd_24 : parseMethodDescriptor "([C)V" = some ⟨[(.array .char)], none⟩ := by decide +kernel
def Q5n10 (Z : State) (G1 : Int32) (G2 : Value) (s1 : Addr) (ta : Addr) (kt : ClassId) (x0 : Int32) (y0 : Int32) (h0 : Heap) (n0 : Nat) (v : Option Value) (h : Heap) (L : List Loc) : Prop := ∃ so : Addr, v = some (.ref so) ∧ Fr n0 L ∧ Keep h0 h [] ∧ own_Res1 Z h so s1 x0
set_option maxRecDepth 65536 in
set_option maxHeartbeats 40000000 in
theorem rm5n10 (l : Launch) (Z : State) (a0 : Array Value) (hw : OW a0 Z) (ws : List Jvm.Cond) (G1 : Int32) (G2 : Value) (s1 : Addr) (ta : Addr) (kt : ClassId) (x0 : Int32) (y0 : Int32) (h0 : Heap) (n0 : Nat) (Z0 : n0 ≤ h0.size) (OLD : Old Z n0 h0) (A : Amb Z G1 G2) (P0 : ex1 Z h0 s1) (P1 : fl2 Z h0 s1 (.ref ta)) (P2 : fl0 Z h0 s1 (.int (0 : Int32))) (P3 : Arv Z h0 ta kt .byte (1 : Int32) [(.int y0)] (.int (0 : Int32))) (he0 : (own_lc y0) = x0) (hx0 : own_ch x0) :
    own_Met l my5 prog_14_method_2_code 4 (some (.object "java/lang/String")) ws (own_rm 6 4 8 88) #[(.ref s1)] Z h0 (Q5n10 Z G1 G2 s1 ta kt x0 y0 h0 n0) 4 8 := by
  refine own_body (plainFor_of_name pn_1) (fun m => by first | (simp [entryFrame, mkF, argsToLocals, Value.category]; done) | rfl) (Ls := #[.val (.ref s1), .unset, .unset, .unset]) fun p e s m below meth c s₁ X0 hx hby hml hZ e0 hown hnm hlk hrt => ?_
  have N0 := Fr.nil n0
  have lt_P0 : @LT.lt Nat _ s1 (Array.size h0) := P0.lt
  have lt_P3 : @LT.lt Nat _ ta (Array.size h0) := P3.lt
  refine own_rl 6 #[.val (.ref s1), .val .null, .val (.int (0 : Int32)), .unset] [(.ref s1), (.int (0 : Int32))] X0 hx hby e5_0_6 rfl rfl ?_
  refine own_cV X0 hx hZ hown (wd31 hw) (wd32 hw) (notFace_of_selects (args := #[]) (mvT hZ (wd34 hw))) (wd34 hw) (wd33 hw) (by decide) (wd35 hw) (wd8 hw) (rm6d0 l Z a0 hw [] G1 G2 s1 ta kt (1 : Int32) [(.int y0)] h0 n0 (by omega) OLD A P0 P1 P2 P3) e0 P0 [] [(.int (0 : Int32))] 9 1 (hb hby d5_6) rfl (by rw [hml]; rfl) rfl rfl (lenOf pd_20 rfl) rfl (by decide) fun v411 T411 Lc411 X411 hQ411 => ?_
  obtain ⟨rfl, N411q, e411⟩ := hQ411
  have N411 := Fr.app N0 N411q
  refine own_kN 12 X411 hx (hb hby d5_9) rfl (tlt (by decide : ((0 : Int32) < (1 : Int32)))).2.1 rfl ?_
  refine own_ru 14 [(.int (0 : Int32)), (.ref s1)] X411 hx hby e5_12_2 rfl rfl ?_
  refine own_cV X411 hx hZ hown (wd53 hw) (wd54 hw) (notFace_of_selects (args := #[]) (mvT hZ (wd56 hw))) (wd56 hw) (wd55 hw) (by decide) (wd57 hw) (wd8 hw) (rm11l l Z a0 hw [] G1 G2 s1 (0 : Int32) ta kt (1 : Int32) [(.int y0)] y0 h0 n0 (by omega) OLD A P0 P1 P2 P3 (by decide) (by decide) rfl) e411 P0 [(.int (0 : Int32))] [] 17 0 (hb hby d5_14) rfl (by rw [hml]; rfl) rfl rfl (lenOf pd_21 rfl) rfl (by decide) fun v412 T412 Lc412 X412 hQ412 => ?_
  obtain ⟨rfl, N412q, e412⟩ := hQ412
  have N412 := Fr.app N411 N412q
  refine own_rl 20 #[.val (.ref s1), .val .null, .val (.int (0 : Int32)), .val (.int (own_lc y0))] [(.int (own_lc y0)), (.int (own_lc y0))] X412 hx hby e5_17_3 rfl rfl ?_
  refine own_cS X412 hx hZ hown (wd75 hw) (wd76 hw) (by decide) (wd77 hw) (wd29 hw) (rm16 l Z a0 hw [] (own_lc y0) h0 n0 (by omega) (by rw [he0]; exact hx0)) e412  [(.int (own_lc y0))] [(.int (own_lc y0))] 23 1 (hb hby d5_20) rfl (by rw [hml]; rfl) rfl rfl (lenOf pd_22 rfl) rfl (by decide) fun v413 T413 Lc413 X413 hQ413 => ?_
  obtain ⟨rfl, N413q, e413⟩ := hQ413
  have N413 := Fr.app N412 N413q
  by_cases hc23 : (own_lc y0) = (own_low (own_lc y0))
  · refine own_kY 42 X413 hx (hb hby d5_23) rfl (teq hc23).1 (by decide) (by decide) ?_
    refine own_rl 45 #[.val (.ref s1), .val .null, .val (.int (1 : Int32)), .val (.int (own_lc y0))] [] X413 hx hby e5_42_1 rfl rfl ?_
    refine own_go 4 X413 hx (hb hby d5_45) (by decide) (by decide) ?_
    refine own_ru 6 [(.ref s1), (.int (1 : Int32))] X413 hx hby e5_4_2 rfl rfl ?_
    refine own_cV X413 hx hZ hown (wd31 hw) (wd32 hw) (notFace_of_selects (args := #[]) (mvT hZ (wd34 hw))) (wd34 hw) (wd33 hw) (by decide) (wd35 hw) (wd8 hw) (rm6d0 l Z a0 hw [] G1 G2 s1 ta kt (1 : Int32) [(.int y0)] h0 n0 (by omega) OLD A P0 P1 P2 P3) e413 P0 [] [(.int (1 : Int32))] 9 1 (hb hby d5_6) rfl (by rw [hml]; rfl) rfl rfl (lenOf pd_20 rfl) rfl (by decide) fun v414 T414 Lc414 X414 hQ414 => ?_
    obtain ⟨rfl, N414q, e414⟩ := hQ414
    have N414 := Fr.app N413 N414q
    refine own_kY 48 X414 hx (hb hby d5_9) rfl (flt (by decide : ¬ ((1 : Int32) < (1 : Int32)))).2.1 (by decide) (by decide) ?_
    refine own_ru 49 [.null] X414 hx hby e5_48_1 rfl rfl ?_
    refine own_st 52 [] (fun t k => XS.ifnonnullNo X414.here hx rfl (hb hby d5_49) rfl k) ?_
    refine own_ru 53 [(.ref s1)] X414 hx hby e5_52_1 rfl rfl ?_
    refine own_go 64 X414 hx (hb hby d5_53) (by decide) (by decide) ?_
    have hq415 : Q5n10 Z G1 G2 s1 ta kt x0 y0 h0 n0 (some (.ref s1)) h0 _ := ⟨s1, rfl, N414, (Keep.refl h0 []), Or.inl ⟨rfl, by rw [← he0]; exact hc23⟩⟩
    exact own_retR X414 hx hlk (w := (.ref s1)) rfl hrt rfl (hb hby d5_64) e414 hq415 (by decide) (by decide)
  · refine own_kN 26 X413 hx (hb hby d5_23) rfl (feq hc23).1 rfl ?_
    refine own_ru 27 [.null] X413 hx hby e5_26_1 rfl rfl ?_
    refine own_st 30 [] (fun t k => XS.ifnonnullNo X413.here hx rfl (hb hby d5_27) rfl k) ?_
    refine own_ru 31 [(.ref s1)] X413 hx hby e5_30_1 rfl rfl ?_
    refine own_cV X413 hx hZ hown (wd85 hw) (wd86 hw) (notFace_of_selects (args := #[]) (mvT hZ (wd88 hw))) (wd88 hw) (wd87 hw) (by decide) (wd89 hw) (wd8 hw) (rm19n10 l Z a0 hw [] G1 G2 s1 ta kt y0 h0 n0 (by omega) OLD A P0 P1 P2 P3) e413 P0 [] [] 34 0 (hb hby d5_31) rfl (by rw [hml]; rfl) rfl rfl (lenOf pd_23 rfl) rfl (by decide) fun v416 T416 Lc416 X416 hQ416 => ?_
    obtain ⟨ob_416, kc_416, rfl, N416q, K416, G416_0, U416_0⟩ := hQ416
    have N416 := Fr.app N413 N416q
    have z416 := K416.1
    have KK416 : Keep h0 T416.heap [] := (Keep.refl h0 []).trans K416 all0
    have lt416_0 : @LT.lt Nat _ ob_416 (Array.size T416.heap) := G416_0.lt
    refine own_rl 38 #[.val (.ref s1), .val (.ref ob_416), .val (.int (0 : Int32)), .val (.int (own_lc y0))] [(.int (own_lc y0)), (.int (0 : Int32)), (.ref ob_416)] X416 hx hby e5_34_4 rfl rfl ?_
    refine own_cS X416 hx hZ hown (wd75 hw) (wd76 hw) (by decide) (wd77 hw) (wd29 hw) (rm16 l Z a0 hw [] (own_lc y0) T416.heap n0 (by omega) (by rw [he0]; exact hx0)) rfl  [(.int (own_lc y0))] [(.int (0 : Int32)), (.ref ob_416)] 41 2 (hb hby d5_38) rfl (by rw [hml]; rfl) rfl rfl (lenOf pd_22 rfl) rfl (by decide) fun v417 T417 Lc417 X417 hQ417 => ?_
    obtain ⟨rfl, N417q, e417⟩ := hQ417
    have N417 := Fr.app N416 N417q
    obtain ⟨cl418, Ar418, q418, S418, N418z, Hs418, G418⟩ := id G416_0
    have hin418 : ¬ ((0 : Int32) < 0 ∨ cl418.slots.size ≤ ((0 : Int32)).toNatClampNeg) := inb_of S418 ⟨by decide, by decide⟩
    obtain ⟨T419, h419, X419, e419, W419, st419⟩ := stC X417 hx hZ e417 Ar418 (j := (0 : Int32)) hin418 (g := (mkF m 41 #[.val (.ref s1), .val (.ref ob_416), .val (.int (0 : Int32)), .val (.int (own_lc y0))] [(.int (own_low (own_lc y0))), (.int (0 : Int32)), (.ref ob_416)])) rfl rfl (hb hby d5_41)
    have V419 : Arv Z h419 ob_416 kc_416 .char (1 : Int32) [(.int (nar .char (own_low (own_lc y0))))] (.int (0 : Int32)) := Arv.set Ar418 q418 S418 N418z Hs418 G418 (fits_nar_char _) W419 0 rfl (Nat.le_of_ble_eq_true rfl)
    have z419 := W419.size
    have KK419 : Keep h0 h419 [] := KK416.wr W419 (Or.inr (by omega))
    have N419 := Fr.snoc X419 N417 (by omega)
    refine own_sT 42 [] st419 ?_
    refine own_rl 45 #[.val (.ref s1), .val (.ref ob_416), .val (.int (1 : Int32)), .val (.int (own_lc y0))] [] X419 hx hby e5_42_1 rfl rfl ?_
    refine own_go 4 X419 hx (hb hby d5_45) (by decide) (by decide) ?_
    refine own_ru 6 [(.ref s1), (.int (1 : Int32))] X419 hx hby e5_4_2 rfl rfl ?_
    have f420 := ((OLD.keep K416 all0).wr W419 (by omega))
    have f421 := (Exa.wr W419 (Exa.keep P0 K416))
    have f422 := (Fld.other W419 (P1.keep K416 nin0) (Or.inl (own_ne (by omega))))
    have f423 := (Fld.other W419 (P2.keep K416 nin0) (Or.inl (own_ne (by omega))))
    have f424 := ((P3.keep K416 nin0).other W419 (own_ne (by omega)))
    refine own_cV X419 hx hZ hown (wd31 hw) (wd32 hw) (notFace_of_selects (args := #[]) (mvT hZ (wd34 hw))) (wd34 hw) (wd33 hw) (by decide) (wd35 hw) (wd8 hw) (rm6d0 l Z a0 hw [] G1 G2 s1 ta kt (1 : Int32) [(.int y0)] h419 n0 (by omega) f420 A f421 f422 f423 f424) e419 f421 [] [(.int (1 : Int32))] 9 1 (hb hby d5_6) rfl (by rw [hml]; rfl) rfl rfl (lenOf pd_20 rfl) rfl (by decide) fun v425 T425 Lc425 X425 hQ425 => ?_
    obtain ⟨rfl, N425q, e425⟩ := hQ425
    have N425 := Fr.app N419 N425q
    refine own_kY 48 X425 hx (hb hby d5_9) rfl (flt (by decide : ¬ ((1 : Int32) < (1 : Int32)))).2.1 (by decide) (by decide) ?_
    refine own_ru 49 [(.ref ob_416)] X425 hx hby e5_48_1 rfl rfl ?_
    refine own_st 56 [] (fun t k => XS.ifnonnullYes X425.here hx rfl (pc0 := 49) (pc' := 56) rfl (hb hby d5_49) rfl (by decide) (by decide) k) ?_
    refine own_nO X425 hx hZ hown (wd96 hw) (wd7 hw) (wd8 hw) e425 59 (hb hby d5_56) rfl (by decide) (by decide) fun T426 h426 b426 g426 X426 e426 E426 A426 D426 UN426 => ?_
    have ll426 : @LT.lt Nat _ b426 (Array.size h426) := A426.lt
    have KK426 : Keep h0 h426 [] := KK419.ext E426
    have z426 := E426.1
    have F427 : fl2 Z h426 b426 .null := D426 (Or.inr (wd21 hw)) (ty := (.array .byte)) (by decide)
    have F428 : fl0 Z h426 b426 (.int (0 : Int32)) := D426 (Or.inr (wd22 hw)) (ty := .byte) (by decide)
    refine own_ru 61 [(.ref ob_416), (.ref b426), (.ref b426)] X426 hx hby e5_59_2 rfl rfl ?_
    have f429 := (f420.ext E426)
    have f430 := (V419.ext E426)
    refine own_cN X426 hx hZ hown rfl (wd97 hw) (wd10 hw) (by decide) (wd11 hw) (wd8 hw) (rm2n1 l Z a0 hw [] G1 G2 b426 ob_416 kc_416 (nar .char (own_low (own_lc y0))) h426 n0 (by omega) f429 A A426 F427 F428 f430 (by omega) (own_chn _) (by first | assumption | decide | omega)) e426  [(.ref ob_416)] [(.ref b426)] 64 1 (hb hby d5_61) rfl (by rw [hml]; rfl) rfl rfl (lenOf pd_24 rfl) rfl (by decide) fun v431 T431 Lc431 X431 hQ431 => ?_
    obtain ⟨rfl, N431q, K431, G431_0⟩ := hQ431
    have N431 := Fr.app N425 N431q
    have z431 := K431.1
    have KK431 : Keep h0 T431.heap [] := KK426.trans K431 (allS (Or.inr (by omega)) all0)
    have hq432 : Q5n10 Z G1 G2 s1 ta kt x0 y0 h0 n0 (some (.ref b426)) T431.heap _ := ⟨b426, rfl, N431, KK431, Or.inr ⟨by rw [← (show nar .char (own_low (own_lc y0)) = own_low x0 by rw [he0]; exact own_nch (own_lowCh hx0))]; exact G431_0, fun q => hc23 (by rw [he0]; exact q)⟩⟩
    exact own_retR X431 hx hlk (w := (.ref b426)) rfl hrt rfl (hb hby d5_64) rfl hq432 (by decide) (by decide)
def Q5n11 (Z : State) (G1 : Int32) (G2 : Value) (s1 : Addr) (ta : Addr) (kt : ClassId) (x0 : Int32) (y0 : Int32) (z0 : Int32) (h0 : Heap) (n0 : Nat) (v : Option Value) (h : Heap) (L : List Loc) : Prop := ∃ so : Addr, v = some (.ref so) ∧ Fr n0 L ∧ Keep h0 h [] ∧ own_Res1 Z h so s1 x0
set_option maxRecDepth 65536 in
set_option maxHeartbeats 40000000 in
theorem rm5n11 (l : Launch) (Z : State) (a0 : Array Value) (hw : OW a0 Z) (ws : List Jvm.Cond) (G1 : Int32) (G2 : Value) (s1 : Addr) (ta : Addr) (kt : ClassId) (x0 : Int32) (y0 : Int32) (z0 : Int32) (h0 : Heap) (n0 : Nat) (Z0 : n0 ≤ h0.size) (OLD : Old Z n0 h0) (A : Amb Z G1 G2) (P0 : ex1 Z h0 s1) (P1 : fl2 Z h0 s1 (.ref ta)) (P2 : fl0 Z h0 s1 (.int (1 : Int32))) (P3 : Arv Z h0 ta kt .byte (2 : Int32) [(.int y0), (.int z0)] (.int (0 : Int32))) (he0 : (own_u y0 z0) = x0) (hx0 : own_ch x0) :
    own_Met l my5 prog_14_method_2_code 4 (some (.object "java/lang/String")) ws (own_rm 6 4 8 88) #[(.ref s1)] Z h0 (Q5n11 Z G1 G2 s1 ta kt x0 y0 z0 h0 n0) 4 8 := by
  refine own_body (plainFor_of_name pn_1) (fun m => by first | (simp [entryFrame, mkF, argsToLocals, Value.category]; done) | rfl) (Ls := #[.val (.ref s1), .unset, .unset, .unset]) fun p e s m below meth c s₁ X0 hx hby hml hZ e0 hown hnm hlk hrt => ?_
  have N0 := Fr.nil n0
  have lt_P0 : @LT.lt Nat _ s1 (Array.size h0) := P0.lt
  have lt_P3 : @LT.lt Nat _ ta (Array.size h0) := P3.lt
  refine own_rl 6 #[.val (.ref s1), .val .null, .val (.int (0 : Int32)), .unset] [(.ref s1), (.int (0 : Int32))] X0 hx hby e5_0_6 rfl rfl ?_
  refine own_cV X0 hx hZ hown (wd31 hw) (wd32 hw) (notFace_of_selects (args := #[]) (mvT hZ (wd34 hw))) (wd34 hw) (wd33 hw) (by decide) (wd35 hw) (wd8 hw) (rm6d1 l Z a0 hw [] G1 G2 s1 ta kt (2 : Int32) [(.int y0), (.int z0)] h0 n0 (by omega) OLD A P0 P1 P2 P3) e0 P0 [] [(.int (0 : Int32))] 9 1 (hb hby d5_6) rfl (by rw [hml]; rfl) rfl rfl (lenOf pd_20 rfl) rfl (by decide) fun v433 T433 Lc433 X433 hQ433 => ?_
  obtain ⟨rfl, N433q, e433⟩ := hQ433
  have N433 := Fr.app N0 N433q
  refine own_kN 12 X433 hx (hb hby d5_9) rfl (tlt (by decide : ((0 : Int32) < (1 : Int32)))).2.1 rfl ?_
  refine own_ru 14 [(.int (0 : Int32)), (.ref s1)] X433 hx hby e5_12_2 rfl rfl ?_
  refine own_cV X433 hx hZ hown (wd53 hw) (wd54 hw) (notFace_of_selects (args := #[]) (mvT hZ (wd56 hw))) (wd56 hw) (wd55 hw) (by decide) (wd57 hw) (wd8 hw) (rm11u l Z a0 hw [] G1 G2 s1 (0 : Int32) ta kt (2 : Int32) [(.int y0), (.int z0)] y0 z0 h0 n0 (by omega) OLD A P0 P1 P2 P3 (by decide) (by decide) ⟨by decide, by decide⟩ ⟨by decide, by decide⟩ rfl rfl) e433 P0 [(.int (0 : Int32))] [] 17 0 (hb hby d5_14) rfl (by rw [hml]; rfl) rfl rfl (lenOf pd_21 rfl) rfl (by decide) fun v434 T434 Lc434 X434 hQ434 => ?_
  obtain ⟨rfl, N434q, e434⟩ := hQ434
  have N434 := Fr.app N433 N434q
  refine own_rl 20 #[.val (.ref s1), .val .null, .val (.int (0 : Int32)), .val (.int (own_u y0 z0))] [(.int (own_u y0 z0)), (.int (own_u y0 z0))] X434 hx hby e5_17_3 rfl rfl ?_
  refine own_cS X434 hx hZ hown (wd75 hw) (wd76 hw) (by decide) (wd77 hw) (wd29 hw) (rm16 l Z a0 hw [] (own_u y0 z0) h0 n0 (by omega) (by rw [he0]; exact hx0)) e434  [(.int (own_u y0 z0))] [(.int (own_u y0 z0))] 23 1 (hb hby d5_20) rfl (by rw [hml]; rfl) rfl rfl (lenOf pd_22 rfl) rfl (by decide) fun v435 T435 Lc435 X435 hQ435 => ?_
  obtain ⟨rfl, N435q, e435⟩ := hQ435
  have N435 := Fr.app N434 N435q
  by_cases hc23 : (own_u y0 z0) = (own_low (own_u y0 z0))
  · refine own_kY 42 X435 hx (hb hby d5_23) rfl (teq hc23).1 (by decide) (by decide) ?_
    refine own_rl 45 #[.val (.ref s1), .val .null, .val (.int (1 : Int32)), .val (.int (own_u y0 z0))] [] X435 hx hby e5_42_1 rfl rfl ?_
    refine own_go 4 X435 hx (hb hby d5_45) (by decide) (by decide) ?_
    refine own_ru 6 [(.ref s1), (.int (1 : Int32))] X435 hx hby e5_4_2 rfl rfl ?_
    refine own_cV X435 hx hZ hown (wd31 hw) (wd32 hw) (notFace_of_selects (args := #[]) (mvT hZ (wd34 hw))) (wd34 hw) (wd33 hw) (by decide) (wd35 hw) (wd8 hw) (rm6d1 l Z a0 hw [] G1 G2 s1 ta kt (2 : Int32) [(.int y0), (.int z0)] h0 n0 (by omega) OLD A P0 P1 P2 P3) e435 P0 [] [(.int (1 : Int32))] 9 1 (hb hby d5_6) rfl (by rw [hml]; rfl) rfl rfl (lenOf pd_20 rfl) rfl (by decide) fun v436 T436 Lc436 X436 hQ436 => ?_
    obtain ⟨rfl, N436q, e436⟩ := hQ436
    have N436 := Fr.app N435 N436q
    refine own_kY 48 X436 hx (hb hby d5_9) rfl (flt (by decide : ¬ ((1 : Int32) < (1 : Int32)))).2.1 (by decide) (by decide) ?_
    refine own_ru 49 [.null] X436 hx hby e5_48_1 rfl rfl ?_
    refine own_st 52 [] (fun t k => XS.ifnonnullNo X436.here hx rfl (hb hby d5_49) rfl k) ?_
    refine own_ru 53 [(.ref s1)] X436 hx hby e5_52_1 rfl rfl ?_
    refine own_go 64 X436 hx (hb hby d5_53) (by decide) (by decide) ?_
    have hq437 : Q5n11 Z G1 G2 s1 ta kt x0 y0 z0 h0 n0 (some (.ref s1)) h0 _ := ⟨s1, rfl, N436, (Keep.refl h0 []), Or.inl ⟨rfl, by rw [← he0]; exact hc23⟩⟩
    exact own_retR X436 hx hlk (w := (.ref s1)) rfl hrt rfl (hb hby d5_64) e436 hq437 (by decide) (by decide)
  · refine own_kN 26 X435 hx (hb hby d5_23) rfl (feq hc23).1 rfl ?_
    refine own_ru 27 [.null] X435 hx hby e5_26_1 rfl rfl ?_
    refine own_st 30 [] (fun t k => XS.ifnonnullNo X435.here hx rfl (hb hby d5_27) rfl k) ?_
    refine own_ru 31 [(.ref s1)] X435 hx hby e5_30_1 rfl rfl ?_
    refine own_cV X435 hx hZ hown (wd85 hw) (wd86 hw) (notFace_of_selects (args := #[]) (mvT hZ (wd88 hw))) (wd88 hw) (wd87 hw) (by decide) (wd89 hw) (wd8 hw) (rm19n11 l Z a0 hw [] G1 G2 s1 ta kt y0 z0 h0 n0 (by omega) OLD A P0 P1 P2 P3) e435 P0 [] [] 34 0 (hb hby d5_31) rfl (by rw [hml]; rfl) rfl rfl (lenOf pd_23 rfl) rfl (by decide) fun v438 T438 Lc438 X438 hQ438 => ?_
    obtain ⟨ob_438, kc_438, rfl, N438q, K438, G438_0, U438_0⟩ := hQ438
    have N438 := Fr.app N435 N438q
    have z438 := K438.1
    have KK438 : Keep h0 T438.heap [] := (Keep.refl h0 []).trans K438 all0
    have lt438_0 : @LT.lt Nat _ ob_438 (Array.size T438.heap) := G438_0.lt
    refine own_rl 38 #[.val (.ref s1), .val (.ref ob_438), .val (.int (0 : Int32)), .val (.int (own_u y0 z0))] [(.int (own_u y0 z0)), (.int (0 : Int32)), (.ref ob_438)] X438 hx hby e5_34_4 rfl rfl ?_
    refine own_cS X438 hx hZ hown (wd75 hw) (wd76 hw) (by decide) (wd77 hw) (wd29 hw) (rm16 l Z a0 hw [] (own_u y0 z0) T438.heap n0 (by omega) (by rw [he0]; exact hx0)) rfl  [(.int (own_u y0 z0))] [(.int (0 : Int32)), (.ref ob_438)] 41 2 (hb hby d5_38) rfl (by rw [hml]; rfl) rfl rfl (lenOf pd_22 rfl) rfl (by decide) fun v439 T439 Lc439 X439 hQ439 => ?_
    obtain ⟨rfl, N439q, e439⟩ := hQ439
    have N439 := Fr.app N438 N439q
    obtain ⟨cl440, Ar440, q440, S440, N440z, Hs440, G440⟩ := id G438_0
    have hin440 : ¬ ((0 : Int32) < 0 ∨ cl440.slots.size ≤ ((0 : Int32)).toNatClampNeg) := inb_of S440 ⟨by decide, by decide⟩
    obtain ⟨T441, h441, X441, e441, W441, st441⟩ := stC X439 hx hZ e439 Ar440 (j := (0 : Int32)) hin440 (g := (mkF m 41 #[.val (.ref s1), .val (.ref ob_438), .val (.int (0 : Int32)), .val (.int (own_u y0 z0))] [(.int (own_low (own_u y0 z0))), (.int (0 : Int32)), (.ref ob_438)])) rfl rfl (hb hby d5_41)
    have V441 : Arv Z h441 ob_438 kc_438 .char (1 : Int32) [(.int (nar .char (own_low (own_u y0 z0))))] (.int (0 : Int32)) := Arv.set Ar440 q440 S440 N440z Hs440 G440 (fits_nar_char _) W441 0 rfl (Nat.le_of_ble_eq_true rfl)
    have z441 := W441.size
    have KK441 : Keep h0 h441 [] := KK438.wr W441 (Or.inr (by omega))
    have N441 := Fr.snoc X441 N439 (by omega)
    refine own_sT 42 [] st441 ?_
    refine own_rl 45 #[.val (.ref s1), .val (.ref ob_438), .val (.int (1 : Int32)), .val (.int (own_u y0 z0))] [] X441 hx hby e5_42_1 rfl rfl ?_
    refine own_go 4 X441 hx (hb hby d5_45) (by decide) (by decide) ?_
    refine own_ru 6 [(.ref s1), (.int (1 : Int32))] X441 hx hby e5_4_2 rfl rfl ?_
    have f442 := ((OLD.keep K438 all0).wr W441 (by omega))
    have f443 := (Exa.wr W441 (Exa.keep P0 K438))
    have f444 := (Fld.other W441 (P1.keep K438 nin0) (Or.inl (own_ne (by omega))))
    have f445 := (Fld.other W441 (P2.keep K438 nin0) (Or.inl (own_ne (by omega))))
    have f446 := ((P3.keep K438 nin0).other W441 (own_ne (by omega)))
    refine own_cV X441 hx hZ hown (wd31 hw) (wd32 hw) (notFace_of_selects (args := #[]) (mvT hZ (wd34 hw))) (wd34 hw) (wd33 hw) (by decide) (wd35 hw) (wd8 hw) (rm6d1 l Z a0 hw [] G1 G2 s1 ta kt (2 : Int32) [(.int y0), (.int z0)] h441 n0 (by omega) f442 A f443 f444 f445 f446) e441 f443 [] [(.int (1 : Int32))] 9 1 (hb hby d5_6) rfl (by rw [hml]; rfl) rfl rfl (lenOf pd_20 rfl) rfl (by decide) fun v447 T447 Lc447 X447 hQ447 => ?_
    obtain ⟨rfl, N447q, e447⟩ := hQ447
    have N447 := Fr.app N441 N447q
    refine own_kY 48 X447 hx (hb hby d5_9) rfl (flt (by decide : ¬ ((1 : Int32) < (1 : Int32)))).2.1 (by decide) (by decide) ?_
    refine own_ru 49 [(.ref ob_438)] X447 hx hby e5_48_1 rfl rfl ?_
    refine own_st 56 [] (fun t k => XS.ifnonnullYes X447.here hx rfl (pc0 := 49) (pc' := 56) rfl (hb hby d5_49) rfl (by decide) (by decide) k) ?_
    refine own_nO X447 hx hZ hown (wd96 hw) (wd7 hw) (wd8 hw) e447 59 (hb hby d5_56) rfl (by decide) (by decide) fun T448 h448 b448 g448 X448 e448 E448 A448 D448 UN448 => ?_
    have ll448 : @LT.lt Nat _ b448 (Array.size h448) := A448.lt
    have KK448 : Keep h0 h448 [] := KK441.ext E448
    have z448 := E448.1
    have F449 : fl2 Z h448 b448 .null := D448 (Or.inr (wd21 hw)) (ty := (.array .byte)) (by decide)
    have F450 : fl0 Z h448 b448 (.int (0 : Int32)) := D448 (Or.inr (wd22 hw)) (ty := .byte) (by decide)
    refine own_ru 61 [(.ref ob_438), (.ref b448), (.ref b448)] X448 hx hby e5_59_2 rfl rfl ?_
    have f451 := (f442.ext E448)
    have f452 := (V441.ext E448)
    refine own_cN X448 hx hZ hown rfl (wd97 hw) (wd10 hw) (by decide) (wd11 hw) (wd8 hw) (rm2n1 l Z a0 hw [] G1 G2 b448 ob_438 kc_438 (nar .char (own_low (own_u y0 z0))) h448 n0 (by omega) f451 A A448 F449 F450 f452 (by omega) (own_chn _) (by first | assumption | decide | omega)) e448  [(.ref ob_438)] [(.ref b448)] 64 1 (hb hby d5_61) rfl (by rw [hml]; rfl) rfl rfl (lenOf pd_24 rfl) rfl (by decide) fun v453 T453 Lc453 X453 hQ453 => ?_
    obtain ⟨rfl, N453q, K453, G453_0⟩ := hQ453
    have N453 := Fr.app N447 N453q
    have z453 := K453.1
    have KK453 : Keep h0 T453.heap [] := KK448.trans K453 (allS (Or.inr (by omega)) all0)
    have hq454 : Q5n11 Z G1 G2 s1 ta kt x0 y0 z0 h0 n0 (some (.ref b448)) T453.heap _ := ⟨b448, rfl, N453, KK453, Or.inr ⟨by rw [← (show nar .char (own_low (own_u y0 z0)) = own_low x0 by rw [he0]; exact own_nch (own_lowCh hx0))]; exact G453_0, fun q => hc23 (by rw [he0]; exact q)⟩⟩
    exact own_retR X453 hx hlk (w := (.ref b448)) rfl hrt rfl (hb hby d5_64) rfl hq454 (by decide) (by decide)
theorem e5_35_3 : own_dec prog_14_method_2_code 35 [(.aload_n 1, 1), (.iload_n 2, 1), (.iload_n 3, 1)] = true := by decide +kernel
def Q5n20 (Z : State) (G1 : Int32) (G2 : Value) (s1 : Addr) (ta : Addr) (kt : ClassId) (x0 : Int32) (x1 : Int32) (y0 : Int32) (y1 : Int32) (h0 : Heap) (n0 : Nat) (v : Option Value) (h : Heap) (L : List Loc) : Prop := ∃ so : Addr, v = some (.ref so) ∧ Fr n0 L ∧ Keep h0 h [] ∧ own_Res2 Z h so s1 x0 x1
set_option maxRecDepth 65536 in
set_option maxHeartbeats 40000000 in
theorem rm5n20 (l : Launch) (Z : State) (a0 : Array Value) (hw : OW a0 Z) (ws : List Jvm.Cond) (G1 : Int32) (G2 : Value) (s1 : Addr) (ta : Addr) (kt : ClassId) (x0 : Int32) (x1 : Int32) (y0 : Int32) (y1 : Int32) (h0 : Heap) (n0 : Nat) (Z0 : n0 ≤ h0.size) (OLD : Old Z n0 h0) (A : Amb Z G1 G2) (P0 : ex1 Z h0 s1) (P1 : fl2 Z h0 s1 (.ref ta)) (P2 : fl0 Z h0 s1 (.int (0 : Int32))) (P3 : Arv Z h0 ta kt .byte (2 : Int32) [(.int y0), (.int y1)] (.int (0 : Int32))) (he0 : (own_lc y0) = x0) (he1 : (own_lc y1) = x1) (hx0 : own_ch x0) (hx1 : own_ch x1) :
    own_Met l my5 prog_14_method_2_code 4 (some (.object "java/lang/String")) ws (own_rm 6 4 12 88) #[(.ref s1)] Z h0 (Q5n20 Z G1 G2 s1 ta kt x0 x1 y0 y1 h0 n0) 4 12 := by
  refine own_body (plainFor_of_name pn_1) (fun m => by first | (simp [entryFrame, mkF, argsToLocals, Value.category]; done) | rfl) (Ls := #[.val (.ref s1), .unset, .unset, .unset]) fun p e s m below meth c s₁ X0 hx hby hml hZ e0 hown hnm hlk hrt => ?_
  have N0 := Fr.nil n0
  have lt_P0 : @LT.lt Nat _ s1 (Array.size h0) := P0.lt
  have lt_P3 : @LT.lt Nat _ ta (Array.size h0) := P3.lt
  refine own_rl 6 #[.val (.ref s1), .val .null, .val (.int (0 : Int32)), .unset] [(.ref s1), (.int (0 : Int32))] X0 hx hby e5_0_6 rfl rfl ?_
  refine own_cV X0 hx hZ hown (wd31 hw) (wd32 hw) (notFace_of_selects (args := #[]) (mvT hZ (wd34 hw))) (wd34 hw) (wd33 hw) (by decide) (wd35 hw) (wd8 hw) (rm6d0 l Z a0 hw [] G1 G2 s1 ta kt (2 : Int32) [(.int y0), (.int y1)] h0 n0 (by omega) OLD A P0 P1 P2 P3) e0 P0 [] [(.int (0 : Int32))] 9 1 (hb hby d5_6) rfl (by rw [hml]; rfl) rfl rfl (lenOf pd_20 rfl) rfl (by decide) fun v455 T455 Lc455 X455 hQ455 => ?_
  obtain ⟨rfl, N455q, e455⟩ := hQ455
  have N455 := Fr.app N0 N455q
  refine own_kN 12 X455 hx (hb hby d5_9) rfl (tlt (by decide : ((0 : Int32) < (2 : Int32)))).2.1 rfl ?_
  refine own_ru 14 [(.int (0 : Int32)), (.ref s1)] X455 hx hby e5_12_2 rfl rfl ?_
  refine own_cV X455 hx hZ hown (wd53 hw) (wd54 hw) (notFace_of_selects (args := #[]) (mvT hZ (wd56 hw))) (wd56 hw) (wd55 hw) (by decide) (wd57 hw) (wd8 hw) (rm11l l Z a0 hw [] G1 G2 s1 (0 : Int32) ta kt (2 : Int32) [(.int y0), (.int y1)] y0 h0 n0 (by omega) OLD A P0 P1 P2 P3 (by decide) (by decide) rfl) e455 P0 [(.int (0 : Int32))] [] 17 0 (hb hby d5_14) rfl (by rw [hml]; rfl) rfl rfl (lenOf pd_21 rfl) rfl (by decide) fun v456 T456 Lc456 X456 hQ456 => ?_
  obtain ⟨rfl, N456q, e456⟩ := hQ456
  have N456 := Fr.app N455 N456q
  refine own_rl 20 #[.val (.ref s1), .val .null, .val (.int (0 : Int32)), .val (.int (own_lc y0))] [(.int (own_lc y0)), (.int (own_lc y0))] X456 hx hby e5_17_3 rfl rfl ?_
  refine own_cS X456 hx hZ hown (wd75 hw) (wd76 hw) (by decide) (wd77 hw) (wd29 hw) (rm16 l Z a0 hw [] (own_lc y0) h0 n0 (by omega) (by rw [he0]; exact hx0)) e456  [(.int (own_lc y0))] [(.int (own_lc y0))] 23 1 (hb hby d5_20) rfl (by rw [hml]; rfl) rfl rfl (lenOf pd_22 rfl) rfl (by decide) fun v457 T457 Lc457 X457 hQ457 => ?_
  obtain ⟨rfl, N457q, e457⟩ := hQ457
  have N457 := Fr.app N456 N457q
  by_cases hc23 : (own_lc y0) = (own_low (own_lc y0))
  · refine own_kY 42 X457 hx (hb hby d5_23) rfl (teq hc23).1 (by decide) (by decide) ?_
    refine own_rl 45 #[.val (.ref s1), .val .null, .val (.int (1 : Int32)), .val (.int (own_lc y0))] [] X457 hx hby e5_42_1 rfl rfl ?_
    refine own_go 4 X457 hx (hb hby d5_45) (by decide) (by decide) ?_
    refine own_ru 6 [(.ref s1), (.int (1 : Int32))] X457 hx hby e5_4_2 rfl rfl ?_
    refine own_cV X457 hx hZ hown (wd31 hw) (wd32 hw) (notFace_of_selects (args := #[]) (mvT hZ (wd34 hw))) (wd34 hw) (wd33 hw) (by decide) (wd35 hw) (wd8 hw) (rm6d0 l Z a0 hw [] G1 G2 s1 ta kt (2 : Int32) [(.int y0), (.int y1)] h0 n0 (by omega) OLD A P0 P1 P2 P3) e457 P0 [] [(.int (1 : Int32))] 9 1 (hb hby d5_6) rfl (by rw [hml]; rfl) rfl rfl (lenOf pd_20 rfl) rfl (by decide) fun v458 T458 Lc458 X458 hQ458 => ?_
    obtain ⟨rfl, N458q, e458⟩ := hQ458
    have N458 := Fr.app N457 N458q
    refine own_kN 12 X458 hx (hb hby d5_9) rfl (tlt (by decide : ((1 : Int32) < (2 : Int32)))).2.1 rfl ?_
    refine own_ru 14 [(.int (1 : Int32)), (.ref s1)] X458 hx hby e5_12_2 rfl rfl ?_
    refine own_cV X458 hx hZ hown (wd53 hw) (wd54 hw) (notFace_of_selects (args := #[]) (mvT hZ (wd56 hw))) (wd56 hw) (wd55 hw) (by decide) (wd57 hw) (wd8 hw) (rm11l l Z a0 hw [] G1 G2 s1 (1 : Int32) ta kt (2 : Int32) [(.int y0), (.int y1)] y1 h0 n0 (by omega) OLD A P0 P1 P2 P3 (by decide) (by decide) rfl) e458 P0 [(.int (1 : Int32))] [] 17 0 (hb hby d5_14) rfl (by rw [hml]; rfl) rfl rfl (lenOf pd_21 rfl) rfl (by decide) fun v459 T459 Lc459 X459 hQ459 => ?_
    obtain ⟨rfl, N459q, e459⟩ := hQ459
    have N459 := Fr.app N458 N459q
    refine own_rl 20 #[.val (.ref s1), .val .null, .val (.int (1 : Int32)), .val (.int (own_lc y1))] [(.int (own_lc y1)), (.int (own_lc y1))] X459 hx hby e5_17_3 rfl rfl ?_
    refine own_cS X459 hx hZ hown (wd75 hw) (wd76 hw) (by decide) (wd77 hw) (wd29 hw) (rm16 l Z a0 hw [] (own_lc y1) h0 n0 (by omega) (by rw [he1]; exact hx1)) e459  [(.int (own_lc y1))] [(.int (own_lc y1))] 23 1 (hb hby d5_20) rfl (by rw [hml]; rfl) rfl rfl (lenOf pd_22 rfl) rfl (by decide) fun v460 T460 Lc460 X460 hQ460 => ?_
    obtain ⟨rfl, N460q, e460⟩ := hQ460
    have N460 := Fr.app N459 N460q
    by_cases hc23b : (own_lc y1) = (own_low (own_lc y1))
    · refine own_kY 42 X460 hx (hb hby d5_23) rfl (teq hc23b).1 (by decide) (by decide) ?_
      refine own_rl 45 #[.val (.ref s1), .val .null, .val (.int (2 : Int32)), .val (.int (own_lc y1))] [] X460 hx hby e5_42_1 rfl rfl ?_
      refine own_go 4 X460 hx (hb hby d5_45) (by decide) (by decide) ?_
      refine own_ru 6 [(.ref s1), (.int (2 : Int32))] X460 hx hby e5_4_2 rfl rfl ?_
      refine own_cV X460 hx hZ hown (wd31 hw) (wd32 hw) (notFace_of_selects (args := #[]) (mvT hZ (wd34 hw))) (wd34 hw) (wd33 hw) (by decide) (wd35 hw) (wd8 hw) (rm6d0 l Z a0 hw [] G1 G2 s1 ta kt (2 : Int32) [(.int y0), (.int y1)] h0 n0 (by omega) OLD A P0 P1 P2 P3) e460 P0 [] [(.int (2 : Int32))] 9 1 (hb hby d5_6) rfl (by rw [hml]; rfl) rfl rfl (lenOf pd_20 rfl) rfl (by decide) fun v461 T461 Lc461 X461 hQ461 => ?_
      obtain ⟨rfl, N461q, e461⟩ := hQ461
      have N461 := Fr.app N460 N461q
      refine own_kY 48 X461 hx (hb hby d5_9) rfl (flt (by decide : ¬ ((2 : Int32) < (2 : Int32)))).2.1 (by decide) (by decide) ?_
      refine own_ru 49 [.null] X461 hx hby e5_48_1 rfl rfl ?_
      refine own_st 52 [] (fun t k => XS.ifnonnullNo X461.here hx rfl (hb hby d5_49) rfl k) ?_
      refine own_ru 53 [(.ref s1)] X461 hx hby e5_52_1 rfl rfl ?_
      refine own_go 64 X461 hx (hb hby d5_53) (by decide) (by decide) ?_
      have hq462 : Q5n20 Z G1 G2 s1 ta kt x0 x1 y0 y1 h0 n0 (some (.ref s1)) h0 _ := ⟨s1, rfl, N461, (Keep.refl h0 []), Or.inl ⟨rfl, by rw [← he0]; exact hc23, by rw [← he1]; exact hc23b⟩⟩
      exact own_retR X461 hx hlk (w := (.ref s1)) rfl hrt rfl (hb hby d5_64) e461 hq462 (by decide) (by decide)
    · refine own_kN 26 X460 hx (hb hby d5_23) rfl (feq hc23b).1 rfl ?_
      refine own_ru 27 [.null] X460 hx hby e5_26_1 rfl rfl ?_
      refine own_st 30 [] (fun t k => XS.ifnonnullNo X460.here hx rfl (hb hby d5_27) rfl k) ?_
      refine own_ru 31 [(.ref s1)] X460 hx hby e5_30_1 rfl rfl ?_
      refine own_cV X460 hx hZ hown (wd85 hw) (wd86 hw) (notFace_of_selects (args := #[]) (mvT hZ (wd88 hw))) (wd88 hw) (wd87 hw) (by decide) (wd89 hw) (wd8 hw) (rm19n20 l Z a0 hw [] G1 G2 s1 ta kt y0 y1 h0 n0 (by omega) OLD A P0 P1 P2 P3) e460 P0 [] [] 34 0 (hb hby d5_31) rfl (by rw [hml]; rfl) rfl rfl (lenOf pd_23 rfl) rfl (by decide) fun v463 T463 Lc463 X463 hQ463 => ?_
      obtain ⟨ob_463, kc_463, rfl, N463q, K463, G463_0, U463_0⟩ := hQ463
      have N463 := Fr.app N460 N463q
      have z463 := K463.1
      have KK463 : Keep h0 T463.heap [] := (Keep.refl h0 []).trans K463 all0
      have lt463_0 : @LT.lt Nat _ ob_463 (Array.size T463.heap) := G463_0.lt
      refine own_rl 38 #[.val (.ref s1), .val (.ref ob_463), .val (.int (1 : Int32)), .val (.int (own_lc y1))] [(.int (own_lc y1)), (.int (1 : Int32)), (.ref ob_463)] X463 hx hby e5_34_4 rfl rfl ?_
      refine own_cS X463 hx hZ hown (wd75 hw) (wd76 hw) (by decide) (wd77 hw) (wd29 hw) (rm16 l Z a0 hw [] (own_lc y1) T463.heap n0 (by omega) (by rw [he1]; exact hx1)) rfl  [(.int (own_lc y1))] [(.int (1 : Int32)), (.ref ob_463)] 41 2 (hb hby d5_38) rfl (by rw [hml]; rfl) rfl rfl (lenOf pd_22 rfl) rfl (by decide) fun v464 T464 Lc464 X464 hQ464 => ?_
      obtain ⟨rfl, N464q, e464⟩ := hQ464
      have N464 := Fr.app N463 N464q
      obtain ⟨cl465, Ar465, q465, S465, N465z, Hs465, G465⟩ := id G463_0
      have hin465 : ¬ ((1 : Int32) < 0 ∨ cl465.slots.size ≤ ((1 : Int32)).toNatClampNeg) := inb_of S465 ⟨by decide, by decide⟩
      obtain ⟨T466, h466, X466, e466, W466, st466⟩ := stC X464 hx hZ e464 Ar465 (j := (1 : Int32)) hin465 (g := (mkF m 41 #[.val (.ref s1), .val (.ref ob_463), .val (.int (1 : Int32)), .val (.int (own_lc y1))] [(.int (own_low (own_lc y1))), (.int (1 : Int32)), (.ref ob_463)])) rfl rfl (hb hby d5_41)
      have V466 : Arv Z h466 ob_463 kc_463 .char (2 : Int32) [(.int (own_lc y0)), (.int (nar .char (own_low (own_lc y1))))] (.int (0 : Int32)) := Arv.set Ar465 q465 S465 N465z Hs465 G465 (fits_nar_char _) W466 1 rfl (Nat.le_of_ble_eq_true rfl)
      have z466 := W466.size
      have KK466 : Keep h0 h466 [] := KK463.wr W466 (Or.inr (by omega))
      have N466 := Fr.snoc X466 N464 (by omega)
      refine own_sT 42 [] st466 ?_
      refine own_rl 45 #[.val (.ref s1), .val (.ref ob_463), .val (.int (2 : Int32)), .val (.int (own_lc y1))] [] X466 hx hby e5_42_1 rfl rfl ?_
      refine own_go 4 X466 hx (hb hby d5_45) (by decide) (by decide) ?_
      refine own_ru 6 [(.ref s1), (.int (2 : Int32))] X466 hx hby e5_4_2 rfl rfl ?_
      have f467 := ((OLD.keep K463 all0).wr W466 (by omega))
      have f468 := (Exa.wr W466 (Exa.keep P0 K463))
      have f469 := (Fld.other W466 (P1.keep K463 nin0) (Or.inl (own_ne (by omega))))
      have f470 := (Fld.other W466 (P2.keep K463 nin0) (Or.inl (own_ne (by omega))))
      have f471 := ((P3.keep K463 nin0).other W466 (own_ne (by omega)))
      refine own_cV X466 hx hZ hown (wd31 hw) (wd32 hw) (notFace_of_selects (args := #[]) (mvT hZ (wd34 hw))) (wd34 hw) (wd33 hw) (by decide) (wd35 hw) (wd8 hw) (rm6d0 l Z a0 hw [] G1 G2 s1 ta kt (2 : Int32) [(.int y0), (.int y1)] h466 n0 (by omega) f467 A f468 f469 f470 f471) e466 f468 [] [(.int (2 : Int32))] 9 1 (hb hby d5_6) rfl (by rw [hml]; rfl) rfl rfl (lenOf pd_20 rfl) rfl (by decide) fun v472 T472 Lc472 X472 hQ472 => ?_
      obtain ⟨rfl, N472q, e472⟩ := hQ472
      have N472 := Fr.app N466 N472q
      refine own_kY 48 X472 hx (hb hby d5_9) rfl (flt (by decide : ¬ ((2 : Int32) < (2 : Int32)))).2.1 (by decide) (by decide) ?_
      refine own_ru 49 [(.ref ob_463)] X472 hx hby e5_48_1 rfl rfl ?_
      refine own_st 56 [] (fun t k => XS.ifnonnullYes X472.here hx rfl (pc0 := 49) (pc' := 56) rfl (hb hby d5_49) rfl (by decide) (by decide) k) ?_
      refine own_nO X472 hx hZ hown (wd96 hw) (wd7 hw) (wd8 hw) e472 59 (hb hby d5_56) rfl (by decide) (by decide) fun T473 h473 b473 g473 X473 e473 E473 A473 D473 UN473 => ?_
      have ll473 : @LT.lt Nat _ b473 (Array.size h473) := A473.lt
      have KK473 : Keep h0 h473 [] := KK466.ext E473
      have z473 := E473.1
      have F474 : fl2 Z h473 b473 .null := D473 (Or.inr (wd21 hw)) (ty := (.array .byte)) (by decide)
      have F475 : fl0 Z h473 b473 (.int (0 : Int32)) := D473 (Or.inr (wd22 hw)) (ty := .byte) (by decide)
      refine own_ru 61 [(.ref ob_463), (.ref b473), (.ref b473)] X473 hx hby e5_59_2 rfl rfl ?_
      have f476 := (f467.ext E473)
      have f477 := (V466.ext E473)
      refine own_cN X473 hx hZ hown rfl (wd97 hw) (wd10 hw) (by decide) (wd11 hw) (wd8 hw) (rm2n2 l Z a0 hw [] G1 G2 b473 ob_463 kc_463 (own_lc y0) (nar .char (own_low (own_lc y1))) h473 n0 (by omega) f476 A A473 F474 F475 f477 (by omega) (own_chn _) (own_chn _) (by first | assumption | decide | omega)) e473  [(.ref ob_463)] [(.ref b473)] 64 1 (hb hby d5_61) rfl (by rw [hml]; rfl) rfl rfl (lenOf pd_24 rfl) rfl (by decide) fun v478 T478 Lc478 X478 hQ478 => ?_
      obtain ⟨rfl, N478q, K478, G478_0⟩ := hQ478
      have N478 := Fr.app N472 N478q
      have z478 := K478.1
      have KK478 : Keep h0 T478.heap [] := KK473.trans K478 (allS (Or.inr (by omega)) all0)
      have hq479 : Q5n20 Z G1 G2 s1 ta kt x0 x1 y0 y1 h0 n0 (some (.ref b473)) T478.heap _ := ⟨b473, rfl, N478, KK478, Or.inr ⟨by rw [← (show (own_lc y0) = own_low x0 by rw [← he0]; exact hc23), ← (show nar .char (own_low (own_lc y1)) = own_low x1 by rw [he1]; exact own_nch (own_lowCh hx1))]; exact G478_0, fun q => hc23b (by rw [he1]; exact q.2)⟩⟩
      exact own_retR X478 hx hlk (w := (.ref b473)) rfl hrt rfl (hb hby d5_64) rfl hq479 (by decide) (by decide)
  · refine own_kN 26 X457 hx (hb hby d5_23) rfl (feq hc23).1 rfl ?_
    refine own_ru 27 [.null] X457 hx hby e5_26_1 rfl rfl ?_
    refine own_st 30 [] (fun t k => XS.ifnonnullNo X457.here hx rfl (hb hby d5_27) rfl k) ?_
    refine own_ru 31 [(.ref s1)] X457 hx hby e5_30_1 rfl rfl ?_
    refine own_cV X457 hx hZ hown (wd85 hw) (wd86 hw) (notFace_of_selects (args := #[]) (mvT hZ (wd88 hw))) (wd88 hw) (wd87 hw) (by decide) (wd89 hw) (wd8 hw) (rm19n20 l Z a0 hw [] G1 G2 s1 ta kt y0 y1 h0 n0 (by omega) OLD A P0 P1 P2 P3) e457 P0 [] [] 34 0 (hb hby d5_31) rfl (by rw [hml]; rfl) rfl rfl (lenOf pd_23 rfl) rfl (by decide) fun v480 T480 Lc480 X480 hQ480 => ?_
    obtain ⟨ob_480, kc_480, rfl, N480q, K480, G480_0, U480_0⟩ := hQ480
    have N480 := Fr.app N457 N480q
    have z480 := K480.1
    have KK480 : Keep h0 T480.heap [] := (Keep.refl h0 []).trans K480 all0
    have lt480_0 : @LT.lt Nat _ ob_480 (Array.size T480.heap) := G480_0.lt
    refine own_rl 38 #[.val (.ref s1), .val (.ref ob_480), .val (.int (0 : Int32)), .val (.int (own_lc y0))] [(.int (own_lc y0)), (.int (0 : Int32)), (.ref ob_480)] X480 hx hby e5_34_4 rfl rfl ?_
    refine own_cS X480 hx hZ hown (wd75 hw) (wd76 hw) (by decide) (wd77 hw) (wd29 hw) (rm16 l Z a0 hw [] (own_lc y0) T480.heap n0 (by omega) (by rw [he0]; exact hx0)) rfl  [(.int (own_lc y0))] [(.int (0 : Int32)), (.ref ob_480)] 41 2 (hb hby d5_38) rfl (by rw [hml]; rfl) rfl rfl (lenOf pd_22 rfl) rfl (by decide) fun v481 T481 Lc481 X481 hQ481 => ?_
    obtain ⟨rfl, N481q, e481⟩ := hQ481
    have N481 := Fr.app N480 N481q
    obtain ⟨cl482, Ar482, q482, S482, N482z, Hs482, G482⟩ := id G480_0
    have hin482 : ¬ ((0 : Int32) < 0 ∨ cl482.slots.size ≤ ((0 : Int32)).toNatClampNeg) := inb_of S482 ⟨by decide, by decide⟩
    obtain ⟨T483, h483, X483, e483, W483, st483⟩ := stC X481 hx hZ e481 Ar482 (j := (0 : Int32)) hin482 (g := (mkF m 41 #[.val (.ref s1), .val (.ref ob_480), .val (.int (0 : Int32)), .val (.int (own_lc y0))] [(.int (own_low (own_lc y0))), (.int (0 : Int32)), (.ref ob_480)])) rfl rfl (hb hby d5_41)
    have V483 : Arv Z h483 ob_480 kc_480 .char (2 : Int32) [(.int (nar .char (own_low (own_lc y0)))), (.int (own_lc y1))] (.int (0 : Int32)) := Arv.set Ar482 q482 S482 N482z Hs482 G482 (fits_nar_char _) W483 0 rfl (Nat.le_of_ble_eq_true rfl)
    have z483 := W483.size
    have KK483 : Keep h0 h483 [] := KK480.wr W483 (Or.inr (by omega))
    have N483 := Fr.snoc X483 N481 (by omega)
    refine own_sT 42 [] st483 ?_
    refine own_rl 45 #[.val (.ref s1), .val (.ref ob_480), .val (.int (1 : Int32)), .val (.int (own_lc y0))] [] X483 hx hby e5_42_1 rfl rfl ?_
    refine own_go 4 X483 hx (hb hby d5_45) (by decide) (by decide) ?_
    refine own_ru 6 [(.ref s1), (.int (1 : Int32))] X483 hx hby e5_4_2 rfl rfl ?_
    have f484 := ((OLD.keep K480 all0).wr W483 (by omega))
    have f485 := (Exa.wr W483 (Exa.keep P0 K480))
    have f486 := (Fld.other W483 (P1.keep K480 nin0) (Or.inl (own_ne (by omega))))
    have f487 := (Fld.other W483 (P2.keep K480 nin0) (Or.inl (own_ne (by omega))))
    have f488 := ((P3.keep K480 nin0).other W483 (own_ne (by omega)))
    refine own_cV X483 hx hZ hown (wd31 hw) (wd32 hw) (notFace_of_selects (args := #[]) (mvT hZ (wd34 hw))) (wd34 hw) (wd33 hw) (by decide) (wd35 hw) (wd8 hw) (rm6d0 l Z a0 hw [] G1 G2 s1 ta kt (2 : Int32) [(.int y0), (.int y1)] h483 n0 (by omega) f484 A f485 f486 f487 f488) e483 f485 [] [(.int (1 : Int32))] 9 1 (hb hby d5_6) rfl (by rw [hml]; rfl) rfl rfl (lenOf pd_20 rfl) rfl (by decide) fun v489 T489 Lc489 X489 hQ489 => ?_
    obtain ⟨rfl, N489q, e489⟩ := hQ489
    have N489 := Fr.app N483 N489q
    refine own_kN 12 X489 hx (hb hby d5_9) rfl (tlt (by decide : ((1 : Int32) < (2 : Int32)))).2.1 rfl ?_
    refine own_ru 14 [(.int (1 : Int32)), (.ref s1)] X489 hx hby e5_12_2 rfl rfl ?_
    refine own_cV X489 hx hZ hown (wd53 hw) (wd54 hw) (notFace_of_selects (args := #[]) (mvT hZ (wd56 hw))) (wd56 hw) (wd55 hw) (by decide) (wd57 hw) (wd8 hw) (rm11l l Z a0 hw [] G1 G2 s1 (1 : Int32) ta kt (2 : Int32) [(.int y0), (.int y1)] y1 h483 n0 (by omega) f484 A f485 f486 f487 f488 (by decide) (by decide) rfl) e489 f485 [(.int (1 : Int32))] [] 17 0 (hb hby d5_14) rfl (by rw [hml]; rfl) rfl rfl (lenOf pd_21 rfl) rfl (by decide) fun v490 T490 Lc490 X490 hQ490 => ?_
    obtain ⟨rfl, N490q, e490⟩ := hQ490
    have N490 := Fr.app N489 N490q
    refine own_rl 20 #[.val (.ref s1), .val (.ref ob_480), .val (.int (1 : Int32)), .val (.int (own_lc y1))] [(.int (own_lc y1)), (.int (own_lc y1))] X490 hx hby e5_17_3 rfl rfl ?_
    refine own_cS X490 hx hZ hown (wd75 hw) (wd76 hw) (by decide) (wd77 hw) (wd29 hw) (rm16 l Z a0 hw [] (own_lc y1) h483 n0 (by omega) (by rw [he1]; exact hx1)) e490  [(.int (own_lc y1))] [(.int (own_lc y1))] 23 1 (hb hby d5_20) rfl (by rw [hml]; rfl) rfl rfl (lenOf pd_22 rfl) rfl (by decide) fun v491 T491 Lc491 X491 hQ491 => ?_
    obtain ⟨rfl, N491q, e491⟩ := hQ491
    have N491 := Fr.app N490 N491q
    by_cases hc23b : (own_lc y1) = (own_low (own_lc y1))
    · refine own_kY 42 X491 hx (hb hby d5_23) rfl (teq hc23b).1 (by decide) (by decide) ?_
      refine own_rl 45 #[.val (.ref s1), .val (.ref ob_480), .val (.int (2 : Int32)), .val (.int (own_lc y1))] [] X491 hx hby e5_42_1 rfl rfl ?_
      refine own_go 4 X491 hx (hb hby d5_45) (by decide) (by decide) ?_
      refine own_ru 6 [(.ref s1), (.int (2 : Int32))] X491 hx hby e5_4_2 rfl rfl ?_
      refine own_cV X491 hx hZ hown (wd31 hw) (wd32 hw) (notFace_of_selects (args := #[]) (mvT hZ (wd34 hw))) (wd34 hw) (wd33 hw) (by decide) (wd35 hw) (wd8 hw) (rm6d0 l Z a0 hw [] G1 G2 s1 ta kt (2 : Int32) [(.int y0), (.int y1)] h483 n0 (by omega) f484 A f485 f486 f487 f488) e491 f485 [] [(.int (2 : Int32))] 9 1 (hb hby d5_6) rfl (by rw [hml]; rfl) rfl rfl (lenOf pd_20 rfl) rfl (by decide) fun v492 T492 Lc492 X492 hQ492 => ?_
      obtain ⟨rfl, N492q, e492⟩ := hQ492
      have N492 := Fr.app N491 N492q
      refine own_kY 48 X492 hx (hb hby d5_9) rfl (flt (by decide : ¬ ((2 : Int32) < (2 : Int32)))).2.1 (by decide) (by decide) ?_
      refine own_ru 49 [(.ref ob_480)] X492 hx hby e5_48_1 rfl rfl ?_
      refine own_st 56 [] (fun t k => XS.ifnonnullYes X492.here hx rfl (pc0 := 49) (pc' := 56) rfl (hb hby d5_49) rfl (by decide) (by decide) k) ?_
      refine own_nO X492 hx hZ hown (wd96 hw) (wd7 hw) (wd8 hw) e492 59 (hb hby d5_56) rfl (by decide) (by decide) fun T493 h493 b493 g493 X493 e493 E493 A493 D493 UN493 => ?_
      have ll493 : @LT.lt Nat _ b493 (Array.size h493) := A493.lt
      have KK493 : Keep h0 h493 [] := KK483.ext E493
      have z493 := E493.1
      have F494 : fl2 Z h493 b493 .null := D493 (Or.inr (wd21 hw)) (ty := (.array .byte)) (by decide)
      have F495 : fl0 Z h493 b493 (.int (0 : Int32)) := D493 (Or.inr (wd22 hw)) (ty := .byte) (by decide)
      refine own_ru 61 [(.ref ob_480), (.ref b493), (.ref b493)] X493 hx hby e5_59_2 rfl rfl ?_
      have f496 := (f484.ext E493)
      have f497 := (V483.ext E493)
      refine own_cN X493 hx hZ hown rfl (wd97 hw) (wd10 hw) (by decide) (wd11 hw) (wd8 hw) (rm2n2 l Z a0 hw [] G1 G2 b493 ob_480 kc_480 (nar .char (own_low (own_lc y0))) (own_lc y1) h493 n0 (by omega) f496 A A493 F494 F495 f497 (by omega) (own_chn _) (own_chn _) (by first | assumption | decide | omega)) e493  [(.ref ob_480)] [(.ref b493)] 64 1 (hb hby d5_61) rfl (by rw [hml]; rfl) rfl rfl (lenOf pd_24 rfl) rfl (by decide) fun v498 T498 Lc498 X498 hQ498 => ?_
      obtain ⟨rfl, N498q, K498, G498_0⟩ := hQ498
      have N498 := Fr.app N492 N498q
      have z498 := K498.1
      have KK498 : Keep h0 T498.heap [] := KK493.trans K498 (allS (Or.inr (by omega)) all0)
      have hq499 : Q5n20 Z G1 G2 s1 ta kt x0 x1 y0 y1 h0 n0 (some (.ref b493)) T498.heap _ := ⟨b493, rfl, N498, KK498, Or.inr ⟨by rw [← (show nar .char (own_low (own_lc y0)) = own_low x0 by rw [he0]; exact own_nch (own_lowCh hx0)), ← (show (own_lc y1) = own_low x1 by rw [← he1]; exact hc23b)]; exact G498_0, fun q => hc23 (by rw [he0]; exact q.1)⟩⟩
      exact own_retR X498 hx hlk (w := (.ref b493)) rfl hrt rfl (hb hby d5_64) rfl hq499 (by decide) (by decide)
    · refine own_kN 26 X491 hx (hb hby d5_23) rfl (feq hc23b).1 rfl ?_
      refine own_ru 27 [(.ref ob_480)] X491 hx hby e5_26_1 rfl rfl ?_
      refine own_st 35 [] (fun t k => XS.ifnonnullYes X491.here hx rfl (pc0 := 27) (pc' := 35) rfl (hb hby d5_27) rfl (by decide) (by decide) k) ?_
      refine own_ru 38 [(.int (own_lc y1)), (.int (1 : Int32)), (.ref ob_480)] X491 hx hby e5_35_3 rfl rfl ?_
      refine own_cS X491 hx hZ hown (wd75 hw) (wd76 hw) (by decide) (wd77 hw) (wd29 hw) (rm16 l Z a0 hw [] (own_lc y1) h483 n0 (by omega) (by rw [he1]; exact hx1)) e491  [(.int (own_lc y1))] [(.int (1 : Int32)), (.ref ob_480)] 41 2 (hb hby d5_38) rfl (by rw [hml]; rfl) rfl rfl (lenOf pd_22 rfl) rfl (by decide) fun v500 T500 Lc500 X500 hQ500 => ?_
      obtain ⟨rfl, N500q, e500⟩ := hQ500
      have N500 := Fr.app N491 N500q
      obtain ⟨cl501, Ar501, q501, S501, N501z, Hs501, G501⟩ := id V483
      have hin501 : ¬ ((1 : Int32) < 0 ∨ cl501.slots.size ≤ ((1 : Int32)).toNatClampNeg) := inb_of S501 ⟨by decide, by decide⟩
      obtain ⟨T502, h502, X502, e502, W502, st502⟩ := stC X500 hx hZ e500 Ar501 (j := (1 : Int32)) hin501 (g := (mkF m 41 #[.val (.ref s1), .val (.ref ob_480), .val (.int (1 : Int32)), .val (.int (own_lc y1))] [(.int (own_low (own_lc y1))), (.int (1 : Int32)), (.ref ob_480)])) rfl rfl (hb hby d5_41)
      have V502 : Arv Z h502 ob_480 kc_480 .char (2 : Int32) [(.int (nar .char (own_low (own_lc y0)))), (.int (nar .char (own_low (own_lc y1))))] (.int (0 : Int32)) := Arv.set Ar501 q501 S501 N501z Hs501 G501 (fits_nar_char _) W502 1 rfl (Nat.le_of_ble_eq_true rfl)
      have z502 := W502.size
      have KK502 : Keep h0 h502 [] := KK483.wr W502 (Or.inr (by omega))
      have N502 := Fr.snoc X502 N500 (by omega)
      refine own_sT 42 [] st502 ?_
      refine own_rl 45 #[.val (.ref s1), .val (.ref ob_480), .val (.int (2 : Int32)), .val (.int (own_lc y1))] [] X502 hx hby e5_42_1 rfl rfl ?_
      refine own_go 4 X502 hx (hb hby d5_45) (by decide) (by decide) ?_
      refine own_ru 6 [(.ref s1), (.int (2 : Int32))] X502 hx hby e5_4_2 rfl rfl ?_
      have f503 := (f484.wr W502 (by omega))
      have f504 := (Exa.wr W502 f485)
      have f505 := (Fld.other W502 f486 (Or.inl (own_ne (by omega))))
      have f506 := (Fld.other W502 f487 (Or.inl (own_ne (by omega))))
      have f507 := (f488.other W502 (own_ne (by omega)))
      refine own_cV X502 hx hZ hown (wd31 hw) (wd32 hw) (notFace_of_selects (args := #[]) (mvT hZ (wd34 hw))) (wd34 hw) (wd33 hw) (by decide) (wd35 hw) (wd8 hw) (rm6d0 l Z a0 hw [] G1 G2 s1 ta kt (2 : Int32) [(.int y0), (.int y1)] h502 n0 (by omega) f503 A f504 f505 f506 f507) e502 f504 [] [(.int (2 : Int32))] 9 1 (hb hby d5_6) rfl (by rw [hml]; rfl) rfl rfl (lenOf pd_20 rfl) rfl (by decide) fun v508 T508 Lc508 X508 hQ508 => ?_
      obtain ⟨rfl, N508q, e508⟩ := hQ508
      have N508 := Fr.app N502 N508q
      refine own_kY 48 X508 hx (hb hby d5_9) rfl (flt (by decide : ¬ ((2 : Int32) < (2 : Int32)))).2.1 (by decide) (by decide) ?_
      refine own_ru 49 [(.ref ob_480)] X508 hx hby e5_48_1 rfl rfl ?_
      refine own_st 56 [] (fun t k => XS.ifnonnullYes X508.here hx rfl (pc0 := 49) (pc' := 56) rfl (hb hby d5_49) rfl (by decide) (by decide) k) ?_
      refine own_nO X508 hx hZ hown (wd96 hw) (wd7 hw) (wd8 hw) e508 59 (hb hby d5_56) rfl (by decide) (by decide) fun T509 h509 b509 g509 X509 e509 E509 A509 D509 UN509 => ?_
      have ll509 : @LT.lt Nat _ b509 (Array.size h509) := A509.lt
      have KK509 : Keep h0 h509 [] := KK502.ext E509
      have z509 := E509.1
      have F510 : fl2 Z h509 b509 .null := D509 (Or.inr (wd21 hw)) (ty := (.array .byte)) (by decide)
      have F511 : fl0 Z h509 b509 (.int (0 : Int32)) := D509 (Or.inr (wd22 hw)) (ty := .byte) (by decide)
      refine own_ru 61 [(.ref ob_480), (.ref b509), (.ref b509)] X509 hx hby e5_59_2 rfl rfl ?_
      have f512 := (f503.ext E509)
      have f513 := (V502.ext E509)
      refine own_cN X509 hx hZ hown rfl (wd97 hw) (wd10 hw) (by decide) (wd11 hw) (wd8 hw) (rm2n2 l Z a0 hw [] G1 G2 b509 ob_480 kc_480 (nar .char (own_low (own_lc y0))) (nar .char (own_low (own_lc y1))) h509 n0 (by omega) f512 A A509 F510 F511 f513 (by omega) (own_chn _) (own_chn _) (by first | assumption | decide | omega)) e509  [(.ref ob_480)] [(.ref b509)] 64 1 (hb hby d5_61) rfl (by rw [hml]; rfl) rfl rfl (lenOf pd_24 rfl) rfl (by decide) fun v514 T514 Lc514 X514 hQ514 => ?_
      obtain ⟨rfl, N514q, K514, G514_0⟩ := hQ514
      have N514 := Fr.app N508 N514q
      have z514 := K514.1
      have KK514 : Keep h0 T514.heap [] := KK509.trans K514 (allS (Or.inr (by omega)) all0)
      have hq515 : Q5n20 Z G1 G2 s1 ta kt x0 x1 y0 y1 h0 n0 (some (.ref b509)) T514.heap _ := ⟨b509, rfl, N514, KK514, Or.inr ⟨by rw [← (show nar .char (own_low (own_lc y0)) = own_low x0 by rw [he0]; exact own_nch (own_lowCh hx0)), ← (show nar .char (own_low (own_lc y1)) = own_low x1 by rw [he1]; exact own_nch (own_lowCh hx1))]; exact G514_0, fun q => hc23 (by rw [he0]; exact q.1)⟩⟩
      exact own_retR X514 hx hlk (w := (.ref b509)) rfl hrt rfl (hb hby d5_64) rfl hq515 (by decide) (by decide)
def Q5n21 (Z : State) (G1 : Int32) (G2 : Value) (s1 : Addr) (ta : Addr) (kt : ClassId) (x0 : Int32) (x1 : Int32) (y0 : Int32) (y1 : Int32) (z0 : Int32) (z1 : Int32) (h0 : Heap) (n0 : Nat) (v : Option Value) (h : Heap) (L : List Loc) : Prop := ∃ so : Addr, v = some (.ref so) ∧ Fr n0 L ∧ Keep h0 h [] ∧ own_Res2 Z h so s1 x0 x1
set_option maxRecDepth 65536 in
set_option maxHeartbeats 40000000 in
theorem rm5n21 (l : Launch) (Z : State) (a0 : Array Value) (hw : OW a0 Z) (ws : List Jvm.Cond) (G1 : Int32) (G2 : Value) (s1 : Addr) (ta : Addr) (kt : ClassId) (x0 : Int32) (x1 : Int32) (y0 : Int32) (y1 : Int32) (z0 : Int32) (z1 : Int32) (h0 : Heap) (n0 : Nat) (Z0 : n0 ≤ h0.size) (OLD : Old Z n0 h0) (A : Amb Z G1 G2) (P0 : ex1 Z h0 s1) (P1 : fl2 Z h0 s1 (.ref ta)) (P2 : fl0 Z h0 s1 (.int (1 : Int32))) (P3 : Arv Z h0 ta kt .byte (4 : Int32) [(.int y0), (.int z0), (.int y1), (.int z1)] (.int (0 : Int32))) (he0 : (own_u y0 z0) = x0) (he1 : (own_u y1 z1) = x1) (hx0 : own_ch x0) (hx1 : own_ch x1) :
    own_Met l my5 prog_14_method_2_code 4 (some (.object "java/lang/String")) ws (own_rm 6 4 12 88) #[(.ref s1)] Z h0 (Q5n21 Z G1 G2 s1 ta kt x0 x1 y0 y1 z0 z1 h0 n0) 4 12 := by
  refine own_body (plainFor_of_name pn_1) (fun m => by first | (simp [entryFrame, mkF, argsToLocals, Value.category]; done) | rfl) (Ls := #[.val (.ref s1), .unset, .unset, .unset]) fun p e s m below meth c s₁ X0 hx hby hml hZ e0 hown hnm hlk hrt => ?_
  have N0 := Fr.nil n0
  have lt_P0 : @LT.lt Nat _ s1 (Array.size h0) := P0.lt
  have lt_P3 : @LT.lt Nat _ ta (Array.size h0) := P3.lt
  refine own_rl 6 #[.val (.ref s1), .val .null, .val (.int (0 : Int32)), .unset] [(.ref s1), (.int (0 : Int32))] X0 hx hby e5_0_6 rfl rfl ?_
  refine own_cV X0 hx hZ hown (wd31 hw) (wd32 hw) (notFace_of_selects (args := #[]) (mvT hZ (wd34 hw))) (wd34 hw) (wd33 hw) (by decide) (wd35 hw) (wd8 hw) (rm6d1 l Z a0 hw [] G1 G2 s1 ta kt (4 : Int32) [(.int y0), (.int z0), (.int y1), (.int z1)] h0 n0 (by omega) OLD A P0 P1 P2 P3) e0 P0 [] [(.int (0 : Int32))] 9 1 (hb hby d5_6) rfl (by rw [hml]; rfl) rfl rfl (lenOf pd_20 rfl) rfl (by decide) fun v516 T516 Lc516 X516 hQ516 => ?_
  obtain ⟨rfl, N516q, e516⟩ := hQ516
  have N516 := Fr.app N0 N516q
  refine own_kN 12 X516 hx (hb hby d5_9) rfl (tlt (by decide : ((0 : Int32) < (2 : Int32)))).2.1 rfl ?_
  refine own_ru 14 [(.int (0 : Int32)), (.ref s1)] X516 hx hby e5_12_2 rfl rfl ?_
  refine own_cV X516 hx hZ hown (wd53 hw) (wd54 hw) (notFace_of_selects (args := #[]) (mvT hZ (wd56 hw))) (wd56 hw) (wd55 hw) (by decide) (wd57 hw) (wd8 hw) (rm11u l Z a0 hw [] G1 G2 s1 (0 : Int32) ta kt (4 : Int32) [(.int y0), (.int z0), (.int y1), (.int z1)] y0 z0 h0 n0 (by omega) OLD A P0 P1 P2 P3 (by decide) (by decide) ⟨by decide, by decide⟩ ⟨by decide, by decide⟩ rfl rfl) e516 P0 [(.int (0 : Int32))] [] 17 0 (hb hby d5_14) rfl (by rw [hml]; rfl) rfl rfl (lenOf pd_21 rfl) rfl (by decide) fun v517 T517 Lc517 X517 hQ517 => ?_
  obtain ⟨rfl, N517q, e517⟩ := hQ517
  have N517 := Fr.app N516 N517q
  refine own_rl 20 #[.val (.ref s1), .val .null, .val (.int (0 : Int32)), .val (.int (own_u y0 z0))] [(.int (own_u y0 z0)), (.int (own_u y0 z0))] X517 hx hby e5_17_3 rfl rfl ?_
  refine own_cS X517 hx hZ hown (wd75 hw) (wd76 hw) (by decide) (wd77 hw) (wd29 hw) (rm16 l Z a0 hw [] (own_u y0 z0) h0 n0 (by omega) (by rw [he0]; exact hx0)) e517  [(.int (own_u y0 z0))] [(.int (own_u y0 z0))] 23 1 (hb hby d5_20) rfl (by rw [hml]; rfl) rfl rfl (lenOf pd_22 rfl) rfl (by decide) fun v518 T518 Lc518 X518 hQ518 => ?_
  obtain ⟨rfl, N518q, e518⟩ := hQ518
  have N518 := Fr.app N517 N518q
  by_cases hc23 : (own_u y0 z0) = (own_low (own_u y0 z0))
  · refine own_kY 42 X518 hx (hb hby d5_23) rfl (teq hc23).1 (by decide) (by decide) ?_
    refine own_rl 45 #[.val (.ref s1), .val .null, .val (.int (1 : Int32)), .val (.int (own_u y0 z0))] [] X518 hx hby e5_42_1 rfl rfl ?_
    refine own_go 4 X518 hx (hb hby d5_45) (by decide) (by decide) ?_
    refine own_ru 6 [(.ref s1), (.int (1 : Int32))] X518 hx hby e5_4_2 rfl rfl ?_
    refine own_cV X518 hx hZ hown (wd31 hw) (wd32 hw) (notFace_of_selects (args := #[]) (mvT hZ (wd34 hw))) (wd34 hw) (wd33 hw) (by decide) (wd35 hw) (wd8 hw) (rm6d1 l Z a0 hw [] G1 G2 s1 ta kt (4 : Int32) [(.int y0), (.int z0), (.int y1), (.int z1)] h0 n0 (by omega) OLD A P0 P1 P2 P3) e518 P0 [] [(.int (1 : Int32))] 9 1 (hb hby d5_6) rfl (by rw [hml]; rfl) rfl rfl (lenOf pd_20 rfl) rfl (by decide) fun v519 T519 Lc519 X519 hQ519 => ?_
    obtain ⟨rfl, N519q, e519⟩ := hQ519
    have N519 := Fr.app N518 N519q
    refine own_kN 12 X519 hx (hb hby d5_9) rfl (tlt (by decide : ((1 : Int32) < (2 : Int32)))).2.1 rfl ?_
    refine own_ru 14 [(.int (1 : Int32)), (.ref s1)] X519 hx hby e5_12_2 rfl rfl ?_
    refine own_cV X519 hx hZ hown (wd53 hw) (wd54 hw) (notFace_of_selects (args := #[]) (mvT hZ (wd56 hw))) (wd56 hw) (wd55 hw) (by decide) (wd57 hw) (wd8 hw) (rm11u l Z a0 hw [] G1 G2 s1 (1 : Int32) ta kt (4 : Int32) [(.int y0), (.int z0), (.int y1), (.int z1)] y1 z1 h0 n0 (by omega) OLD A P0 P1 P2 P3 (by decide) (by decide) ⟨by decide, by decide⟩ ⟨by decide, by decide⟩ rfl rfl) e519 P0 [(.int (1 : Int32))] [] 17 0 (hb hby d5_14) rfl (by rw [hml]; rfl) rfl rfl (lenOf pd_21 rfl) rfl (by decide) fun v520 T520 Lc520 X520 hQ520 => ?_
    obtain ⟨rfl, N520q, e520⟩ := hQ520
    have N520 := Fr.app N519 N520q
    refine own_rl 20 #[.val (.ref s1), .val .null, .val (.int (1 : Int32)), .val (.int (own_u y1 z1))] [(.int (own_u y1 z1)), (.int (own_u y1 z1))] X520 hx hby e5_17_3 rfl rfl ?_
    refine own_cS X520 hx hZ hown (wd75 hw) (wd76 hw) (by decide) (wd77 hw) (wd29 hw) (rm16 l Z a0 hw [] (own_u y1 z1) h0 n0 (by omega) (by rw [he1]; exact hx1)) e520  [(.int (own_u y1 z1))] [(.int (own_u y1 z1))] 23 1 (hb hby d5_20) rfl (by rw [hml]; rfl) rfl rfl (lenOf pd_22 rfl) rfl (by decide) fun v521 T521 Lc521 X521 hQ521 => ?_
    obtain ⟨rfl, N521q, e521⟩ := hQ521
    have N521 := Fr.app N520 N521q
    by_cases hc23b : (own_u y1 z1) = (own_low (own_u y1 z1))
    · refine own_kY 42 X521 hx (hb hby d5_23) rfl (teq hc23b).1 (by decide) (by decide) ?_
      refine own_rl 45 #[.val (.ref s1), .val .null, .val (.int (2 : Int32)), .val (.int (own_u y1 z1))] [] X521 hx hby e5_42_1 rfl rfl ?_
      refine own_go 4 X521 hx (hb hby d5_45) (by decide) (by decide) ?_
      refine own_ru 6 [(.ref s1), (.int (2 : Int32))] X521 hx hby e5_4_2 rfl rfl ?_
      refine own_cV X521 hx hZ hown (wd31 hw) (wd32 hw) (notFace_of_selects (args := #[]) (mvT hZ (wd34 hw))) (wd34 hw) (wd33 hw) (by decide) (wd35 hw) (wd8 hw) (rm6d1 l Z a0 hw [] G1 G2 s1 ta kt (4 : Int32) [(.int y0), (.int z0), (.int y1), (.int z1)] h0 n0 (by omega) OLD A P0 P1 P2 P3) e521 P0 [] [(.int (2 : Int32))] 9 1 (hb hby d5_6) rfl (by rw [hml]; rfl) rfl rfl (lenOf pd_20 rfl) rfl (by decide) fun v522 T522 Lc522 X522 hQ522 => ?_
      obtain ⟨rfl, N522q, e522⟩ := hQ522
      have N522 := Fr.app N521 N522q
      refine own_kY 48 X522 hx (hb hby d5_9) rfl (flt (by decide : ¬ ((2 : Int32) < (2 : Int32)))).2.1 (by decide) (by decide) ?_
      refine own_ru 49 [.null] X522 hx hby e5_48_1 rfl rfl ?_
      refine own_st 52 [] (fun t k => XS.ifnonnullNo X522.here hx rfl (hb hby d5_49) rfl k) ?_
      refine own_ru 53 [(.ref s1)] X522 hx hby e5_52_1 rfl rfl ?_
      refine own_go 64 X522 hx (hb hby d5_53) (by decide) (by decide) ?_
      have hq523 : Q5n21 Z G1 G2 s1 ta kt x0 x1 y0 y1 z0 z1 h0 n0 (some (.ref s1)) h0 _ := ⟨s1, rfl, N522, (Keep.refl h0 []), Or.inl ⟨rfl, by rw [← he0]; exact hc23, by rw [← he1]; exact hc23b⟩⟩
      exact own_retR X522 hx hlk (w := (.ref s1)) rfl hrt rfl (hb hby d5_64) e522 hq523 (by decide) (by decide)
    · refine own_kN 26 X521 hx (hb hby d5_23) rfl (feq hc23b).1 rfl ?_
      refine own_ru 27 [.null] X521 hx hby e5_26_1 rfl rfl ?_
      refine own_st 30 [] (fun t k => XS.ifnonnullNo X521.here hx rfl (hb hby d5_27) rfl k) ?_
      refine own_ru 31 [(.ref s1)] X521 hx hby e5_30_1 rfl rfl ?_
      refine own_cV X521 hx hZ hown (wd85 hw) (wd86 hw) (notFace_of_selects (args := #[]) (mvT hZ (wd88 hw))) (wd88 hw) (wd87 hw) (by decide) (wd89 hw) (wd8 hw) (rm19n21 l Z a0 hw [] G1 G2 s1 ta kt y0 y1 z0 z1 h0 n0 (by omega) OLD A P0 P1 P2 P3) e521 P0 [] [] 34 0 (hb hby d5_31) rfl (by rw [hml]; rfl) rfl rfl (lenOf pd_23 rfl) rfl (by decide) fun v524 T524 Lc524 X524 hQ524 => ?_
      obtain ⟨ob_524, kc_524, rfl, N524q, K524, G524_0, U524_0⟩ := hQ524
      have N524 := Fr.app N521 N524q
      have z524 := K524.1
      have KK524 : Keep h0 T524.heap [] := (Keep.refl h0 []).trans K524 all0
      have lt524_0 : @LT.lt Nat _ ob_524 (Array.size T524.heap) := G524_0.lt
      refine own_rl 38 #[.val (.ref s1), .val (.ref ob_524), .val (.int (1 : Int32)), .val (.int (own_u y1 z1))] [(.int (own_u y1 z1)), (.int (1 : Int32)), (.ref ob_524)] X524 hx hby e5_34_4 rfl rfl ?_
      refine own_cS X524 hx hZ hown (wd75 hw) (wd76 hw) (by decide) (wd77 hw) (wd29 hw) (rm16 l Z a0 hw [] (own_u y1 z1) T524.heap n0 (by omega) (by rw [he1]; exact hx1)) rfl  [(.int (own_u y1 z1))] [(.int (1 : Int32)), (.ref ob_524)] 41 2 (hb hby d5_38) rfl (by rw [hml]; rfl) rfl rfl (lenOf pd_22 rfl) rfl (by decide) fun v525 T525 Lc525 X525 hQ525 => ?_
      obtain ⟨rfl, N525q, e525⟩ := hQ525
      have N525 := Fr.app N524 N525q
      obtain ⟨cl526, Ar526, q526, S526, N526z, Hs526, G526⟩ := id G524_0
      have hin526 : ¬ ((1 : Int32) < 0 ∨ cl526.slots.size ≤ ((1 : Int32)).toNatClampNeg) := inb_of S526 ⟨by decide, by decide⟩
      obtain ⟨T527, h527, X527, e527, W527, st527⟩ := stC X525 hx hZ e525 Ar526 (j := (1 : Int32)) hin526 (g := (mkF m 41 #[.val (.ref s1), .val (.ref ob_524), .val (.int (1 : Int32)), .val (.int (own_u y1 z1))] [(.int (own_low (own_u y1 z1))), (.int (1 : Int32)), (.ref ob_524)])) rfl rfl (hb hby d5_41)
      have V527 : Arv Z h527 ob_524 kc_524 .char (2 : Int32) [(.int (nar .char (own_u y0 z0))), (.int (nar .char (own_low (own_u y1 z1))))] (.int (0 : Int32)) := Arv.set Ar526 q526 S526 N526z Hs526 G526 (fits_nar_char _) W527 1 rfl (Nat.le_of_ble_eq_true rfl)
      have z527 := W527.size
      have KK527 : Keep h0 h527 [] := KK524.wr W527 (Or.inr (by omega))
      have N527 := Fr.snoc X527 N525 (by omega)
      refine own_sT 42 [] st527 ?_
      refine own_rl 45 #[.val (.ref s1), .val (.ref ob_524), .val (.int (2 : Int32)), .val (.int (own_u y1 z1))] [] X527 hx hby e5_42_1 rfl rfl ?_
      refine own_go 4 X527 hx (hb hby d5_45) (by decide) (by decide) ?_
      refine own_ru 6 [(.ref s1), (.int (2 : Int32))] X527 hx hby e5_4_2 rfl rfl ?_
      have f528 := ((OLD.keep K524 all0).wr W527 (by omega))
      have f529 := (Exa.wr W527 (Exa.keep P0 K524))
      have f530 := (Fld.other W527 (P1.keep K524 nin0) (Or.inl (own_ne (by omega))))
      have f531 := (Fld.other W527 (P2.keep K524 nin0) (Or.inl (own_ne (by omega))))
      have f532 := ((P3.keep K524 nin0).other W527 (own_ne (by omega)))
      refine own_cV X527 hx hZ hown (wd31 hw) (wd32 hw) (notFace_of_selects (args := #[]) (mvT hZ (wd34 hw))) (wd34 hw) (wd33 hw) (by decide) (wd35 hw) (wd8 hw) (rm6d1 l Z a0 hw [] G1 G2 s1 ta kt (4 : Int32) [(.int y0), (.int z0), (.int y1), (.int z1)] h527 n0 (by omega) f528 A f529 f530 f531 f532) e527 f529 [] [(.int (2 : Int32))] 9 1 (hb hby d5_6) rfl (by rw [hml]; rfl) rfl rfl (lenOf pd_20 rfl) rfl (by decide) fun v533 T533 Lc533 X533 hQ533 => ?_
      obtain ⟨rfl, N533q, e533⟩ := hQ533
      have N533 := Fr.app N527 N533q
      refine own_kY 48 X533 hx (hb hby d5_9) rfl (flt (by decide : ¬ ((2 : Int32) < (2 : Int32)))).2.1 (by decide) (by decide) ?_
      refine own_ru 49 [(.ref ob_524)] X533 hx hby e5_48_1 rfl rfl ?_
      refine own_st 56 [] (fun t k => XS.ifnonnullYes X533.here hx rfl (pc0 := 49) (pc' := 56) rfl (hb hby d5_49) rfl (by decide) (by decide) k) ?_
      refine own_nO X533 hx hZ hown (wd96 hw) (wd7 hw) (wd8 hw) e533 59 (hb hby d5_56) rfl (by decide) (by decide) fun T534 h534 b534 g534 X534 e534 E534 A534 D534 UN534 => ?_
      have ll534 : @LT.lt Nat _ b534 (Array.size h534) := A534.lt
      have KK534 : Keep h0 h534 [] := KK527.ext E534
      have z534 := E534.1
      have F535 : fl2 Z h534 b534 .null := D534 (Or.inr (wd21 hw)) (ty := (.array .byte)) (by decide)
      have F536 : fl0 Z h534 b534 (.int (0 : Int32)) := D534 (Or.inr (wd22 hw)) (ty := .byte) (by decide)
      refine own_ru 61 [(.ref ob_524), (.ref b534), (.ref b534)] X534 hx hby e5_59_2 rfl rfl ?_
      have f537 := (f528.ext E534)
      have f538 := (V527.ext E534)
      refine own_cN X534 hx hZ hown rfl (wd97 hw) (wd10 hw) (by decide) (wd11 hw) (wd8 hw) (rm2n2 l Z a0 hw [] G1 G2 b534 ob_524 kc_524 (nar .char (own_u y0 z0)) (nar .char (own_low (own_u y1 z1))) h534 n0 (by omega) f537 A A534 F535 F536 f538 (by omega) (own_chn _) (own_chn _) (by first | assumption | decide | omega)) e534  [(.ref ob_524)] [(.ref b534)] 64 1 (hb hby d5_61) rfl (by rw [hml]; rfl) rfl rfl (lenOf pd_24 rfl) rfl (by decide) fun v539 T539 Lc539 X539 hQ539 => ?_
      obtain ⟨rfl, N539q, K539, G539_0⟩ := hQ539
      have N539 := Fr.app N533 N539q
      have z539 := K539.1
      have KK539 : Keep h0 T539.heap [] := KK534.trans K539 (allS (Or.inr (by omega)) all0)
      have hq540 : Q5n21 Z G1 G2 s1 ta kt x0 x1 y0 y1 z0 z1 h0 n0 (some (.ref b534)) T539.heap _ := ⟨b534, rfl, N539, KK539, Or.inr ⟨by rw [← (show nar .char (own_u y0 z0) = own_low x0 by rw [show nar .char (own_u y0 z0) = (own_u y0 z0) from own_nn _, ← he0]; exact hc23), ← (show nar .char (own_low (own_u y1 z1)) = own_low x1 by rw [he1]; exact own_nch (own_lowCh hx1))]; exact G539_0, fun q => hc23b (by rw [he1]; exact q.2)⟩⟩
      exact own_retR X539 hx hlk (w := (.ref b534)) rfl hrt rfl (hb hby d5_64) rfl hq540 (by decide) (by decide)
  · refine own_kN 26 X518 hx (hb hby d5_23) rfl (feq hc23).1 rfl ?_
    refine own_ru 27 [.null] X518 hx hby e5_26_1 rfl rfl ?_
    refine own_st 30 [] (fun t k => XS.ifnonnullNo X518.here hx rfl (hb hby d5_27) rfl k) ?_
    refine own_ru 31 [(.ref s1)] X518 hx hby e5_30_1 rfl rfl ?_
    refine own_cV X518 hx hZ hown (wd85 hw) (wd86 hw) (notFace_of_selects (args := #[]) (mvT hZ (wd88 hw))) (wd88 hw) (wd87 hw) (by decide) (wd89 hw) (wd8 hw) (rm19n21 l Z a0 hw [] G1 G2 s1 ta kt y0 y1 z0 z1 h0 n0 (by omega) OLD A P0 P1 P2 P3) e518 P0 [] [] 34 0 (hb hby d5_31) rfl (by rw [hml]; rfl) rfl rfl (lenOf pd_23 rfl) rfl (by decide) fun v541 T541 Lc541 X541 hQ541 => ?_
    obtain ⟨ob_541, kc_541, rfl, N541q, K541, G541_0, U541_0⟩ := hQ541
    have N541 := Fr.app N518 N541q
    have z541 := K541.1
    have KK541 : Keep h0 T541.heap [] := (Keep.refl h0 []).trans K541 all0
    have lt541_0 : @LT.lt Nat _ ob_541 (Array.size T541.heap) := G541_0.lt
    refine own_rl 38 #[.val (.ref s1), .val (.ref ob_541), .val (.int (0 : Int32)), .val (.int (own_u y0 z0))] [(.int (own_u y0 z0)), (.int (0 : Int32)), (.ref ob_541)] X541 hx hby e5_34_4 rfl rfl ?_
    refine own_cS X541 hx hZ hown (wd75 hw) (wd76 hw) (by decide) (wd77 hw) (wd29 hw) (rm16 l Z a0 hw [] (own_u y0 z0) T541.heap n0 (by omega) (by rw [he0]; exact hx0)) rfl  [(.int (own_u y0 z0))] [(.int (0 : Int32)), (.ref ob_541)] 41 2 (hb hby d5_38) rfl (by rw [hml]; rfl) rfl rfl (lenOf pd_22 rfl) rfl (by decide) fun v542 T542 Lc542 X542 hQ542 => ?_
    obtain ⟨rfl, N542q, e542⟩ := hQ542
    have N542 := Fr.app N541 N542q
    obtain ⟨cl543, Ar543, q543, S543, N543z, Hs543, G543⟩ := id G541_0
    have hin543 : ¬ ((0 : Int32) < 0 ∨ cl543.slots.size ≤ ((0 : Int32)).toNatClampNeg) := inb_of S543 ⟨by decide, by decide⟩
    obtain ⟨T544, h544, X544, e544, W544, st544⟩ := stC X542 hx hZ e542 Ar543 (j := (0 : Int32)) hin543 (g := (mkF m 41 #[.val (.ref s1), .val (.ref ob_541), .val (.int (0 : Int32)), .val (.int (own_u y0 z0))] [(.int (own_low (own_u y0 z0))), (.int (0 : Int32)), (.ref ob_541)])) rfl rfl (hb hby d5_41)
    have V544 : Arv Z h544 ob_541 kc_541 .char (2 : Int32) [(.int (nar .char (own_low (own_u y0 z0)))), (.int (nar .char (own_u y1 z1)))] (.int (0 : Int32)) := Arv.set Ar543 q543 S543 N543z Hs543 G543 (fits_nar_char _) W544 0 rfl (Nat.le_of_ble_eq_true rfl)
    have z544 := W544.size
    have KK544 : Keep h0 h544 [] := KK541.wr W544 (Or.inr (by omega))
    have N544 := Fr.snoc X544 N542 (by omega)
    refine own_sT 42 [] st544 ?_
    refine own_rl 45 #[.val (.ref s1), .val (.ref ob_541), .val (.int (1 : Int32)), .val (.int (own_u y0 z0))] [] X544 hx hby e5_42_1 rfl rfl ?_
    refine own_go 4 X544 hx (hb hby d5_45) (by decide) (by decide) ?_
    refine own_ru 6 [(.ref s1), (.int (1 : Int32))] X544 hx hby e5_4_2 rfl rfl ?_
    have f545 := ((OLD.keep K541 all0).wr W544 (by omega))
    have f546 := (Exa.wr W544 (Exa.keep P0 K541))
    have f547 := (Fld.other W544 (P1.keep K541 nin0) (Or.inl (own_ne (by omega))))
    have f548 := (Fld.other W544 (P2.keep K541 nin0) (Or.inl (own_ne (by omega))))
    have f549 := ((P3.keep K541 nin0).other W544 (own_ne (by omega)))
    refine own_cV X544 hx hZ hown (wd31 hw) (wd32 hw) (notFace_of_selects (args := #[]) (mvT hZ (wd34 hw))) (wd34 hw) (wd33 hw) (by decide) (wd35 hw) (wd8 hw) (rm6d1 l Z a0 hw [] G1 G2 s1 ta kt (4 : Int32) [(.int y0), (.int z0), (.int y1), (.int z1)] h544 n0 (by omega) f545 A f546 f547 f548 f549) e544 f546 [] [(.int (1 : Int32))] 9 1 (hb hby d5_6) rfl (by rw [hml]; rfl) rfl rfl (lenOf pd_20 rfl) rfl (by decide) fun v550 T550 Lc550 X550 hQ550 => ?_
    obtain ⟨rfl, N550q, e550⟩ := hQ550
    have N550 := Fr.app N544 N550q
    refine own_kN 12 X550 hx (hb hby d5_9) rfl (tlt (by decide : ((1 : Int32) < (2 : Int32)))).2.1 rfl ?_
    refine own_ru 14 [(.int (1 : Int32)), (.ref s1)] X550 hx hby e5_12_2 rfl rfl ?_
    refine own_cV X550 hx hZ hown (wd53 hw) (wd54 hw) (notFace_of_selects (args := #[]) (mvT hZ (wd56 hw))) (wd56 hw) (wd55 hw) (by decide) (wd57 hw) (wd8 hw) (rm11u l Z a0 hw [] G1 G2 s1 (1 : Int32) ta kt (4 : Int32) [(.int y0), (.int z0), (.int y1), (.int z1)] y1 z1 h544 n0 (by omega) f545 A f546 f547 f548 f549 (by decide) (by decide) ⟨by decide, by decide⟩ ⟨by decide, by decide⟩ rfl rfl) e550 f546 [(.int (1 : Int32))] [] 17 0 (hb hby d5_14) rfl (by rw [hml]; rfl) rfl rfl (lenOf pd_21 rfl) rfl (by decide) fun v551 T551 Lc551 X551 hQ551 => ?_
    obtain ⟨rfl, N551q, e551⟩ := hQ551
    have N551 := Fr.app N550 N551q
    refine own_rl 20 #[.val (.ref s1), .val (.ref ob_541), .val (.int (1 : Int32)), .val (.int (own_u y1 z1))] [(.int (own_u y1 z1)), (.int (own_u y1 z1))] X551 hx hby e5_17_3 rfl rfl ?_
    refine own_cS X551 hx hZ hown (wd75 hw) (wd76 hw) (by decide) (wd77 hw) (wd29 hw) (rm16 l Z a0 hw [] (own_u y1 z1) h544 n0 (by omega) (by rw [he1]; exact hx1)) e551  [(.int (own_u y1 z1))] [(.int (own_u y1 z1))] 23 1 (hb hby d5_20) rfl (by rw [hml]; rfl) rfl rfl (lenOf pd_22 rfl) rfl (by decide) fun v552 T552 Lc552 X552 hQ552 => ?_
    obtain ⟨rfl, N552q, e552⟩ := hQ552
    have N552 := Fr.app N551 N552q
    by_cases hc23b : (own_u y1 z1) = (own_low (own_u y1 z1))
    · refine own_kY 42 X552 hx (hb hby d5_23) rfl (teq hc23b).1 (by decide) (by decide) ?_
      refine own_rl 45 #[.val (.ref s1), .val (.ref ob_541), .val (.int (2 : Int32)), .val (.int (own_u y1 z1))] [] X552 hx hby e5_42_1 rfl rfl ?_
      refine own_go 4 X552 hx (hb hby d5_45) (by decide) (by decide) ?_
      refine own_ru 6 [(.ref s1), (.int (2 : Int32))] X552 hx hby e5_4_2 rfl rfl ?_
      refine own_cV X552 hx hZ hown (wd31 hw) (wd32 hw) (notFace_of_selects (args := #[]) (mvT hZ (wd34 hw))) (wd34 hw) (wd33 hw) (by decide) (wd35 hw) (wd8 hw) (rm6d1 l Z a0 hw [] G1 G2 s1 ta kt (4 : Int32) [(.int y0), (.int z0), (.int y1), (.int z1)] h544 n0 (by omega) f545 A f546 f547 f548 f549) e552 f546 [] [(.int (2 : Int32))] 9 1 (hb hby d5_6) rfl (by rw [hml]; rfl) rfl rfl (lenOf pd_20 rfl) rfl (by decide) fun v553 T553 Lc553 X553 hQ553 => ?_
      obtain ⟨rfl, N553q, e553⟩ := hQ553
      have N553 := Fr.app N552 N553q
      refine own_kY 48 X553 hx (hb hby d5_9) rfl (flt (by decide : ¬ ((2 : Int32) < (2 : Int32)))).2.1 (by decide) (by decide) ?_
      refine own_ru 49 [(.ref ob_541)] X553 hx hby e5_48_1 rfl rfl ?_
      refine own_st 56 [] (fun t k => XS.ifnonnullYes X553.here hx rfl (pc0 := 49) (pc' := 56) rfl (hb hby d5_49) rfl (by decide) (by decide) k) ?_
      refine own_nO X553 hx hZ hown (wd96 hw) (wd7 hw) (wd8 hw) e553 59 (hb hby d5_56) rfl (by decide) (by decide) fun T554 h554 b554 g554 X554 e554 E554 A554 D554 UN554 => ?_
      have ll554 : @LT.lt Nat _ b554 (Array.size h554) := A554.lt
      have KK554 : Keep h0 h554 [] := KK544.ext E554
      have z554 := E554.1
      have F555 : fl2 Z h554 b554 .null := D554 (Or.inr (wd21 hw)) (ty := (.array .byte)) (by decide)
      have F556 : fl0 Z h554 b554 (.int (0 : Int32)) := D554 (Or.inr (wd22 hw)) (ty := .byte) (by decide)
      refine own_ru 61 [(.ref ob_541), (.ref b554), (.ref b554)] X554 hx hby e5_59_2 rfl rfl ?_
      have f557 := (f545.ext E554)
      have f558 := (V544.ext E554)
      refine own_cN X554 hx hZ hown rfl (wd97 hw) (wd10 hw) (by decide) (wd11 hw) (wd8 hw) (rm2n2 l Z a0 hw [] G1 G2 b554 ob_541 kc_541 (nar .char (own_low (own_u y0 z0))) (nar .char (own_u y1 z1)) h554 n0 (by omega) f557 A A554 F555 F556 f558 (by omega) (own_chn _) (own_chn _) (by first | assumption | decide | omega)) e554  [(.ref ob_541)] [(.ref b554)] 64 1 (hb hby d5_61) rfl (by rw [hml]; rfl) rfl rfl (lenOf pd_24 rfl) rfl (by decide) fun v559 T559 Lc559 X559 hQ559 => ?_
      obtain ⟨rfl, N559q, K559, G559_0⟩ := hQ559
      have N559 := Fr.app N553 N559q
      have z559 := K559.1
      have KK559 : Keep h0 T559.heap [] := KK554.trans K559 (allS (Or.inr (by omega)) all0)
      have hq560 : Q5n21 Z G1 G2 s1 ta kt x0 x1 y0 y1 z0 z1 h0 n0 (some (.ref b554)) T559.heap _ := ⟨b554, rfl, N559, KK559, Or.inr ⟨by rw [← (show nar .char (own_low (own_u y0 z0)) = own_low x0 by rw [he0]; exact own_nch (own_lowCh hx0)), ← (show nar .char (own_u y1 z1) = own_low x1 by rw [show nar .char (own_u y1 z1) = (own_u y1 z1) from own_nn _, ← he1]; exact hc23b)]; exact G559_0, fun q => hc23 (by rw [he0]; exact q.1)⟩⟩
      exact own_retR X559 hx hlk (w := (.ref b554)) rfl hrt rfl (hb hby d5_64) rfl hq560 (by decide) (by decide)
    · refine own_kN 26 X552 hx (hb hby d5_23) rfl (feq hc23b).1 rfl ?_
      refine own_ru 27 [(.ref ob_541)] X552 hx hby e5_26_1 rfl rfl ?_
      refine own_st 35 [] (fun t k => XS.ifnonnullYes X552.here hx rfl (pc0 := 27) (pc' := 35) rfl (hb hby d5_27) rfl (by decide) (by decide) k) ?_
      refine own_ru 38 [(.int (own_u y1 z1)), (.int (1 : Int32)), (.ref ob_541)] X552 hx hby e5_35_3 rfl rfl ?_
      refine own_cS X552 hx hZ hown (wd75 hw) (wd76 hw) (by decide) (wd77 hw) (wd29 hw) (rm16 l Z a0 hw [] (own_u y1 z1) h544 n0 (by omega) (by rw [he1]; exact hx1)) e552  [(.int (own_u y1 z1))] [(.int (1 : Int32)), (.ref ob_541)] 41 2 (hb hby d5_38) rfl (by rw [hml]; rfl) rfl rfl (lenOf pd_22 rfl) rfl (by decide) fun v561 T561 Lc561 X561 hQ561 => ?_
      obtain ⟨rfl, N561q, e561⟩ := hQ561
      have N561 := Fr.app N552 N561q
      obtain ⟨cl562, Ar562, q562, S562, N562z, Hs562, G562⟩ := id V544
      have hin562 : ¬ ((1 : Int32) < 0 ∨ cl562.slots.size ≤ ((1 : Int32)).toNatClampNeg) := inb_of S562 ⟨by decide, by decide⟩
      obtain ⟨T563, h563, X563, e563, W563, st563⟩ := stC X561 hx hZ e561 Ar562 (j := (1 : Int32)) hin562 (g := (mkF m 41 #[.val (.ref s1), .val (.ref ob_541), .val (.int (1 : Int32)), .val (.int (own_u y1 z1))] [(.int (own_low (own_u y1 z1))), (.int (1 : Int32)), (.ref ob_541)])) rfl rfl (hb hby d5_41)
      have V563 : Arv Z h563 ob_541 kc_541 .char (2 : Int32) [(.int (nar .char (own_low (own_u y0 z0)))), (.int (nar .char (own_low (own_u y1 z1))))] (.int (0 : Int32)) := Arv.set Ar562 q562 S562 N562z Hs562 G562 (fits_nar_char _) W563 1 rfl (Nat.le_of_ble_eq_true rfl)
      have z563 := W563.size
      have KK563 : Keep h0 h563 [] := KK544.wr W563 (Or.inr (by omega))
      have N563 := Fr.snoc X563 N561 (by omega)
      refine own_sT 42 [] st563 ?_
      refine own_rl 45 #[.val (.ref s1), .val (.ref ob_541), .val (.int (2 : Int32)), .val (.int (own_u y1 z1))] [] X563 hx hby e5_42_1 rfl rfl ?_
      refine own_go 4 X563 hx (hb hby d5_45) (by decide) (by decide) ?_
      refine own_ru 6 [(.ref s1), (.int (2 : Int32))] X563 hx hby e5_4_2 rfl rfl ?_
      have f564 := (f545.wr W563 (by omega))
      have f565 := (Exa.wr W563 f546)
      have f566 := (Fld.other W563 f547 (Or.inl (own_ne (by omega))))
      have f567 := (Fld.other W563 f548 (Or.inl (own_ne (by omega))))
      have f568 := (f549.other W563 (own_ne (by omega)))
      refine own_cV X563 hx hZ hown (wd31 hw) (wd32 hw) (notFace_of_selects (args := #[]) (mvT hZ (wd34 hw))) (wd34 hw) (wd33 hw) (by decide) (wd35 hw) (wd8 hw) (rm6d1 l Z a0 hw [] G1 G2 s1 ta kt (4 : Int32) [(.int y0), (.int z0), (.int y1), (.int z1)] h563 n0 (by omega) f564 A f565 f566 f567 f568) e563 f565 [] [(.int (2 : Int32))] 9 1 (hb hby d5_6) rfl (by rw [hml]; rfl) rfl rfl (lenOf pd_20 rfl) rfl (by decide) fun v569 T569 Lc569 X569 hQ569 => ?_
      obtain ⟨rfl, N569q, e569⟩ := hQ569
      have N569 := Fr.app N563 N569q
      refine own_kY 48 X569 hx (hb hby d5_9) rfl (flt (by decide : ¬ ((2 : Int32) < (2 : Int32)))).2.1 (by decide) (by decide) ?_
      refine own_ru 49 [(.ref ob_541)] X569 hx hby e5_48_1 rfl rfl ?_
      refine own_st 56 [] (fun t k => XS.ifnonnullYes X569.here hx rfl (pc0 := 49) (pc' := 56) rfl (hb hby d5_49) rfl (by decide) (by decide) k) ?_
      refine own_nO X569 hx hZ hown (wd96 hw) (wd7 hw) (wd8 hw) e569 59 (hb hby d5_56) rfl (by decide) (by decide) fun T570 h570 b570 g570 X570 e570 E570 A570 D570 UN570 => ?_
      have ll570 : @LT.lt Nat _ b570 (Array.size h570) := A570.lt
      have KK570 : Keep h0 h570 [] := KK563.ext E570
      have z570 := E570.1
      have F571 : fl2 Z h570 b570 .null := D570 (Or.inr (wd21 hw)) (ty := (.array .byte)) (by decide)
      have F572 : fl0 Z h570 b570 (.int (0 : Int32)) := D570 (Or.inr (wd22 hw)) (ty := .byte) (by decide)
      refine own_ru 61 [(.ref ob_541), (.ref b570), (.ref b570)] X570 hx hby e5_59_2 rfl rfl ?_
      have f573 := (f564.ext E570)
      have f574 := (V563.ext E570)
      refine own_cN X570 hx hZ hown rfl (wd97 hw) (wd10 hw) (by decide) (wd11 hw) (wd8 hw) (rm2n2 l Z a0 hw [] G1 G2 b570 ob_541 kc_541 (nar .char (own_low (own_u y0 z0))) (nar .char (own_low (own_u y1 z1))) h570 n0 (by omega) f573 A A570 F571 F572 f574 (by omega) (own_chn _) (own_chn _) (by first | assumption | decide | omega)) e570  [(.ref ob_541)] [(.ref b570)] 64 1 (hb hby d5_61) rfl (by rw [hml]; rfl) rfl rfl (lenOf pd_24 rfl) rfl (by decide) fun v575 T575 Lc575 X575 hQ575 => ?_
      obtain ⟨rfl, N575q, K575, G575_0⟩ := hQ575
      have N575 := Fr.app N569 N575q
      have z575 := K575.1
      have KK575 : Keep h0 T575.heap [] := KK570.trans K575 (allS (Or.inr (by omega)) all0)
      have hq576 : Q5n21 Z G1 G2 s1 ta kt x0 x1 y0 y1 z0 z1 h0 n0 (some (.ref b570)) T575.heap _ := ⟨b570, rfl, N575, KK575, Or.inr ⟨by rw [← (show nar .char (own_low (own_u y0 z0)) = own_low x0 by rw [he0]; exact own_nch (own_lowCh hx0)), ← (show nar .char (own_low (own_u y1 z1)) = own_low x1 by rw [he1]; exact own_nch (own_lowCh hx1))]; exact G575_0, fun q => hc23 (by rw [he0]; exact q.1)⟩⟩
      exact own_retR X575 hx hlk (w := (.ref b570)) rfl hrt rfl (hb hby d5_64) rfl hq576 (by decide) (by decide)
def Q5n30 (Z : State) (G1 : Int32) (G2 : Value) (s1 : Addr) (ta : Addr) (kt : ClassId) (x0 : Int32) (x1 : Int32) (x2 : Int32) (y0 : Int32) (y1 : Int32) (y2 : Int32) (h0 : Heap) (n0 : Nat) (v : Option Value) (h : Heap) (L : List Loc) : Prop := ∃ so : Addr, v = some (.ref so) ∧ Fr n0 L ∧ Keep h0 h [] ∧ own_Res3 Z h so s1 x0 x1 x2
set_option maxRecDepth 65536 in
set_option maxHeartbeats 40000000 in
theorem rm5n30 (l : Launch) (Z : State) (a0 : Array Value) (hw : OW a0 Z) (ws : List Jvm.Cond) (G1 : Int32) (G2 : Value) (s1 : Addr) (ta : Addr) (kt : ClassId) (x0 : Int32) (x1 : Int32) (x2 : Int32) (y0 : Int32) (y1 : Int32) (y2 : Int32) (h0 : Heap) (n0 : Nat) (Z0 : n0 ≤ h0.size) (OLD : Old Z n0 h0) (A : Amb Z G1 G2) (P0 : ex1 Z h0 s1) (P1 : fl2 Z h0 s1 (.ref ta)) (P2 : fl0 Z h0 s1 (.int (0 : Int32))) (P3 : Arv Z h0 ta kt .byte (3 : Int32) [(.int y0), (.int y1), (.int y2)] (.int (0 : Int32))) (he0 : (own_lc y0) = x0) (he1 : (own_lc y1) = x1) (he2 : (own_lc y2) = x2) (hx0 : own_ch x0) (hx1 : own_ch x1) (hx2 : own_ch x2) :
    own_Met l my5 prog_14_method_2_code 4 (some (.object "java/lang/String")) ws (own_rm 6 4 16 88) #[(.ref s1)] Z h0 (Q5n30 Z G1 G2 s1 ta kt x0 x1 x2 y0 y1 y2 h0 n0) 4 16 := by
  refine own_body (plainFor_of_name pn_1) (fun m => by first | (simp [entryFrame, mkF, argsToLocals, Value.category]; done) | rfl) (Ls := #[.val (.ref s1), .unset, .unset, .unset]) fun p e s m below meth c s₁ X0 hx hby hml hZ e0 hown hnm hlk hrt => ?_
  have N0 := Fr.nil n0
  have lt_P0 : @LT.lt Nat _ s1 (Array.size h0) := P0.lt
  have lt_P3 : @LT.lt Nat _ ta (Array.size h0) := P3.lt
  refine own_rl 6 #[.val (.ref s1), .val .null, .val (.int (0 : Int32)), .unset] [(.ref s1), (.int (0 : Int32))] X0 hx hby e5_0_6 rfl rfl ?_
  refine own_cV X0 hx hZ hown (wd31 hw) (wd32 hw) (notFace_of_selects (args := #[]) (mvT hZ (wd34 hw))) (wd34 hw) (wd33 hw) (by decide) (wd35 hw) (wd8 hw) (rm6d0 l Z a0 hw [] G1 G2 s1 ta kt (3 : Int32) [(.int y0), (.int y1), (.int y2)] h0 n0 (by omega) OLD A P0 P1 P2 P3) e0 P0 [] [(.int (0 : Int32))] 9 1 (hb hby d5_6) rfl (by rw [hml]; rfl) rfl rfl (lenOf pd_20 rfl) rfl (by decide) fun v577 T577 Lc577 X577 hQ577 => ?_
  obtain ⟨rfl, N577q, e577⟩ := hQ577
  have N577 := Fr.app N0 N577q
  refine own_kN 12 X577 hx (hb hby d5_9) rfl (tlt (by decide : ((0 : Int32) < (3 : Int32)))).2.1 rfl ?_
  refine own_ru 14 [(.int (0 : Int32)), (.ref s1)] X577 hx hby e5_12_2 rfl rfl ?_
  refine own_cV X577 hx hZ hown (wd53 hw) (wd54 hw) (notFace_of_selects (args := #[]) (mvT hZ (wd56 hw))) (wd56 hw) (wd55 hw) (by decide) (wd57 hw) (wd8 hw) (rm11l l Z a0 hw [] G1 G2 s1 (0 : Int32) ta kt (3 : Int32) [(.int y0), (.int y1), (.int y2)] y0 h0 n0 (by omega) OLD A P0 P1 P2 P3 (by decide) (by decide) rfl) e577 P0 [(.int (0 : Int32))] [] 17 0 (hb hby d5_14) rfl (by rw [hml]; rfl) rfl rfl (lenOf pd_21 rfl) rfl (by decide) fun v578 T578 Lc578 X578 hQ578 => ?_
  obtain ⟨rfl, N578q, e578⟩ := hQ578
  have N578 := Fr.app N577 N578q
  refine own_rl 20 #[.val (.ref s1), .val .null, .val (.int (0 : Int32)), .val (.int (own_lc y0))] [(.int (own_lc y0)), (.int (own_lc y0))] X578 hx hby e5_17_3 rfl rfl ?_
  refine own_cS X578 hx hZ hown (wd75 hw) (wd76 hw) (by decide) (wd77 hw) (wd29 hw) (rm16 l Z a0 hw [] (own_lc y0) h0 n0 (by omega) (by rw [he0]; exact hx0)) e578  [(.int (own_lc y0))] [(.int (own_lc y0))] 23 1 (hb hby d5_20) rfl (by rw [hml]; rfl) rfl rfl (lenOf pd_22 rfl) rfl (by decide) fun v579 T579 Lc579 X579 hQ579 => ?_
  obtain ⟨rfl, N579q, e579⟩ := hQ579
  have N579 := Fr.app N578 N579q
  by_cases hc23 : (own_lc y0) = (own_low (own_lc y0))
  · refine own_kY 42 X579 hx (hb hby d5_23) rfl (teq hc23).1 (by decide) (by decide) ?_
    refine own_rl 45 #[.val (.ref s1), .val .null, .val (.int (1 : Int32)), .val (.int (own_lc y0))] [] X579 hx hby e5_42_1 rfl rfl ?_
    refine own_go 4 X579 hx (hb hby d5_45) (by decide) (by decide) ?_
    refine own_ru 6 [(.ref s1), (.int (1 : Int32))] X579 hx hby e5_4_2 rfl rfl ?_
    refine own_cV X579 hx hZ hown (wd31 hw) (wd32 hw) (notFace_of_selects (args := #[]) (mvT hZ (wd34 hw))) (wd34 hw) (wd33 hw) (by decide) (wd35 hw) (wd8 hw) (rm6d0 l Z a0 hw [] G1 G2 s1 ta kt (3 : Int32) [(.int y0), (.int y1), (.int y2)] h0 n0 (by omega) OLD A P0 P1 P2 P3) e579 P0 [] [(.int (1 : Int32))] 9 1 (hb hby d5_6) rfl (by rw [hml]; rfl) rfl rfl (lenOf pd_20 rfl) rfl (by decide) fun v580 T580 Lc580 X580 hQ580 => ?_
    obtain ⟨rfl, N580q, e580⟩ := hQ580
    have N580 := Fr.app N579 N580q
    refine own_kN 12 X580 hx (hb hby d5_9) rfl (tlt (by decide : ((1 : Int32) < (3 : Int32)))).2.1 rfl ?_
    refine own_ru 14 [(.int (1 : Int32)), (.ref s1)] X580 hx hby e5_12_2 rfl rfl ?_
    refine own_cV X580 hx hZ hown (wd53 hw) (wd54 hw) (notFace_of_selects (args := #[]) (mvT hZ (wd56 hw))) (wd56 hw) (wd55 hw) (by decide) (wd57 hw) (wd8 hw) (rm11l l Z a0 hw [] G1 G2 s1 (1 : Int32) ta kt (3 : Int32) [(.int y0), (.int y1), (.int y2)] y1 h0 n0 (by omega) OLD A P0 P1 P2 P3 (by decide) (by decide) rfl) e580 P0 [(.int (1 : Int32))] [] 17 0 (hb hby d5_14) rfl (by rw [hml]; rfl) rfl rfl (lenOf pd_21 rfl) rfl (by decide) fun v581 T581 Lc581 X581 hQ581 => ?_
    obtain ⟨rfl, N581q, e581⟩ := hQ581
    have N581 := Fr.app N580 N581q
    refine own_rl 20 #[.val (.ref s1), .val .null, .val (.int (1 : Int32)), .val (.int (own_lc y1))] [(.int (own_lc y1)), (.int (own_lc y1))] X581 hx hby e5_17_3 rfl rfl ?_
    refine own_cS X581 hx hZ hown (wd75 hw) (wd76 hw) (by decide) (wd77 hw) (wd29 hw) (rm16 l Z a0 hw [] (own_lc y1) h0 n0 (by omega) (by rw [he1]; exact hx1)) e581  [(.int (own_lc y1))] [(.int (own_lc y1))] 23 1 (hb hby d5_20) rfl (by rw [hml]; rfl) rfl rfl (lenOf pd_22 rfl) rfl (by decide) fun v582 T582 Lc582 X582 hQ582 => ?_
    obtain ⟨rfl, N582q, e582⟩ := hQ582
    have N582 := Fr.app N581 N582q
    by_cases hc23b : (own_lc y1) = (own_low (own_lc y1))
    · refine own_kY 42 X582 hx (hb hby d5_23) rfl (teq hc23b).1 (by decide) (by decide) ?_
      refine own_rl 45 #[.val (.ref s1), .val .null, .val (.int (2 : Int32)), .val (.int (own_lc y1))] [] X582 hx hby e5_42_1 rfl rfl ?_
      refine own_go 4 X582 hx (hb hby d5_45) (by decide) (by decide) ?_
      refine own_ru 6 [(.ref s1), (.int (2 : Int32))] X582 hx hby e5_4_2 rfl rfl ?_
      refine own_cV X582 hx hZ hown (wd31 hw) (wd32 hw) (notFace_of_selects (args := #[]) (mvT hZ (wd34 hw))) (wd34 hw) (wd33 hw) (by decide) (wd35 hw) (wd8 hw) (rm6d0 l Z a0 hw [] G1 G2 s1 ta kt (3 : Int32) [(.int y0), (.int y1), (.int y2)] h0 n0 (by omega) OLD A P0 P1 P2 P3) e582 P0 [] [(.int (2 : Int32))] 9 1 (hb hby d5_6) rfl (by rw [hml]; rfl) rfl rfl (lenOf pd_20 rfl) rfl (by decide) fun v583 T583 Lc583 X583 hQ583 => ?_
      obtain ⟨rfl, N583q, e583⟩ := hQ583
      have N583 := Fr.app N582 N583q
      refine own_kN 12 X583 hx (hb hby d5_9) rfl (tlt (by decide : ((2 : Int32) < (3 : Int32)))).2.1 rfl ?_
      refine own_ru 14 [(.int (2 : Int32)), (.ref s1)] X583 hx hby e5_12_2 rfl rfl ?_
      refine own_cV X583 hx hZ hown (wd53 hw) (wd54 hw) (notFace_of_selects (args := #[]) (mvT hZ (wd56 hw))) (wd56 hw) (wd55 hw) (by decide) (wd57 hw) (wd8 hw) (rm11l l Z a0 hw [] G1 G2 s1 (2 : Int32) ta kt (3 : Int32) [(.int y0), (.int y1), (.int y2)] y2 h0 n0 (by omega) OLD A P0 P1 P2 P3 (by decide) (by decide) rfl) e583 P0 [(.int (2 : Int32))] [] 17 0 (hb hby d5_14) rfl (by rw [hml]; rfl) rfl rfl (lenOf pd_21 rfl) rfl (by decide) fun v584 T584 Lc584 X584 hQ584 => ?_
      obtain ⟨rfl, N584q, e584⟩ := hQ584
      have N584 := Fr.app N583 N584q
      refine own_rl 20 #[.val (.ref s1), .val .null, .val (.int (2 : Int32)), .val (.int (own_lc y2))] [(.int (own_lc y2)), (.int (own_lc y2))] X584 hx hby e5_17_3 rfl rfl ?_
      refine own_cS X584 hx hZ hown (wd75 hw) (wd76 hw) (by decide) (wd77 hw) (wd29 hw) (rm16 l Z a0 hw [] (own_lc y2) h0 n0 (by omega) (by rw [he2]; exact hx2)) e584  [(.int (own_lc y2))] [(.int (own_lc y2))] 23 1 (hb hby d5_20) rfl (by rw [hml]; rfl) rfl rfl (lenOf pd_22 rfl) rfl (by decide) fun v585 T585 Lc585 X585 hQ585 => ?_
      obtain ⟨rfl, N585q, e585⟩ := hQ585
      have N585 := Fr.app N584 N585q
      by_cases hc23bb : (own_lc y2) = (own_low (own_lc y2))
      · refine own_kY 42 X585 hx (hb hby d5_23) rfl (teq hc23bb).1 (by decide) (by decide) ?_
        refine own_rl 45 #[.val (.ref s1), .val .null, .val (.int (3 : Int32)), .val (.int (own_lc y2))] [] X585 hx hby e5_42_1 rfl rfl ?_
        refine own_go 4 X585 hx (hb hby d5_45) (by decide) (by decide) ?_
        refine own_ru 6 [(.ref s1), (.int (3 : Int32))] X585 hx hby e5_4_2 rfl rfl ?_
        refine own_cV X585 hx hZ hown (wd31 hw) (wd32 hw) (notFace_of_selects (args := #[]) (mvT hZ (wd34 hw))) (wd34 hw) (wd33 hw) (by decide) (wd35 hw) (wd8 hw) (rm6d0 l Z a0 hw [] G1 G2 s1 ta kt (3 : Int32) [(.int y0), (.int y1), (.int y2)] h0 n0 (by omega) OLD A P0 P1 P2 P3) e585 P0 [] [(.int (3 : Int32))] 9 1 (hb hby d5_6) rfl (by rw [hml]; rfl) rfl rfl (lenOf pd_20 rfl) rfl (by decide) fun v586 T586 Lc586 X586 hQ586 => ?_
        obtain ⟨rfl, N586q, e586⟩ := hQ586
        have N586 := Fr.app N585 N586q
        refine own_kY 48 X586 hx (hb hby d5_9) rfl (flt (by decide : ¬ ((3 : Int32) < (3 : Int32)))).2.1 (by decide) (by decide) ?_
        refine own_ru 49 [.null] X586 hx hby e5_48_1 rfl rfl ?_
        refine own_st 52 [] (fun t k => XS.ifnonnullNo X586.here hx rfl (hb hby d5_49) rfl k) ?_
        refine own_ru 53 [(.ref s1)] X586 hx hby e5_52_1 rfl rfl ?_
        refine own_go 64 X586 hx (hb hby d5_53) (by decide) (by decide) ?_
        have hq587 : Q5n30 Z G1 G2 s1 ta kt x0 x1 x2 y0 y1 y2 h0 n0 (some (.ref s1)) h0 _ := ⟨s1, rfl, N586, (Keep.refl h0 []), Or.inl ⟨rfl, by rw [← he0]; exact hc23, by rw [← he1]; exact hc23b, by rw [← he2]; exact hc23bb⟩⟩
        exact own_retR X586 hx hlk (w := (.ref s1)) rfl hrt rfl (hb hby d5_64) e586 hq587 (by decide) (by decide)
      · refine own_kN 26 X585 hx (hb hby d5_23) rfl (feq hc23bb).1 rfl ?_
        refine own_ru 27 [.null] X585 hx hby e5_26_1 rfl rfl ?_
        refine own_st 30 [] (fun t k => XS.ifnonnullNo X585.here hx rfl (hb hby d5_27) rfl k) ?_
        refine own_ru 31 [(.ref s1)] X585 hx hby e5_30_1 rfl rfl ?_
        refine own_cV X585 hx hZ hown (wd85 hw) (wd86 hw) (notFace_of_selects (args := #[]) (mvT hZ (wd88 hw))) (wd88 hw) (wd87 hw) (by decide) (wd89 hw) (wd8 hw) (rm19n30 l Z a0 hw [] G1 G2 s1 ta kt y0 y1 y2 h0 n0 (by omega) OLD A P0 P1 P2 P3) e585 P0 [] [] 34 0 (hb hby d5_31) rfl (by rw [hml]; rfl) rfl rfl (lenOf pd_23 rfl) rfl (by decide) fun v588 T588 Lc588 X588 hQ588 => ?_
        obtain ⟨ob_588, kc_588, rfl, N588q, K588, G588_0, U588_0⟩ := hQ588
        have N588 := Fr.app N585 N588q
        have z588 := K588.1
        have KK588 : Keep h0 T588.heap [] := (Keep.refl h0 []).trans K588 all0
        have lt588_0 : @LT.lt Nat _ ob_588 (Array.size T588.heap) := G588_0.lt
        refine own_rl 38 #[.val (.ref s1), .val (.ref ob_588), .val (.int (2 : Int32)), .val (.int (own_lc y2))] [(.int (own_lc y2)), (.int (2 : Int32)), (.ref ob_588)] X588 hx hby e5_34_4 rfl rfl ?_
        refine own_cS X588 hx hZ hown (wd75 hw) (wd76 hw) (by decide) (wd77 hw) (wd29 hw) (rm16 l Z a0 hw [] (own_lc y2) T588.heap n0 (by omega) (by rw [he2]; exact hx2)) rfl  [(.int (own_lc y2))] [(.int (2 : Int32)), (.ref ob_588)] 41 2 (hb hby d5_38) rfl (by rw [hml]; rfl) rfl rfl (lenOf pd_22 rfl) rfl (by decide) fun v589 T589 Lc589 X589 hQ589 => ?_
        obtain ⟨rfl, N589q, e589⟩ := hQ589
        have N589 := Fr.app N588 N589q
        obtain ⟨cl590, Ar590, q590, S590, N590z, Hs590, G590⟩ := id G588_0
        have hin590 : ¬ ((2 : Int32) < 0 ∨ cl590.slots.size ≤ ((2 : Int32)).toNatClampNeg) := inb_of S590 ⟨by decide, by decide⟩
        obtain ⟨T591, h591, X591, e591, W591, st591⟩ := stC X589 hx hZ e589 Ar590 (j := (2 : Int32)) hin590 (g := (mkF m 41 #[.val (.ref s1), .val (.ref ob_588), .val (.int (2 : Int32)), .val (.int (own_lc y2))] [(.int (own_low (own_lc y2))), (.int (2 : Int32)), (.ref ob_588)])) rfl rfl (hb hby d5_41)
        have V591 : Arv Z h591 ob_588 kc_588 .char (3 : Int32) [(.int (own_lc y0)), (.int (own_lc y1)), (.int (nar .char (own_low (own_lc y2))))] (.int (0 : Int32)) := Arv.set Ar590 q590 S590 N590z Hs590 G590 (fits_nar_char _) W591 2 rfl (Nat.le_of_ble_eq_true rfl)
        have z591 := W591.size
        have KK591 : Keep h0 h591 [] := KK588.wr W591 (Or.inr (by omega))
        have N591 := Fr.snoc X591 N589 (by omega)
        refine own_sT 42 [] st591 ?_
        refine own_rl 45 #[.val (.ref s1), .val (.ref ob_588), .val (.int (3 : Int32)), .val (.int (own_lc y2))] [] X591 hx hby e5_42_1 rfl rfl ?_
        refine own_go 4 X591 hx (hb hby d5_45) (by decide) (by decide) ?_
        refine own_ru 6 [(.ref s1), (.int (3 : Int32))] X591 hx hby e5_4_2 rfl rfl ?_
        have f592 := ((OLD.keep K588 all0).wr W591 (by omega))
        have f593 := (Exa.wr W591 (Exa.keep P0 K588))
        have f594 := (Fld.other W591 (P1.keep K588 nin0) (Or.inl (own_ne (by omega))))
        have f595 := (Fld.other W591 (P2.keep K588 nin0) (Or.inl (own_ne (by omega))))
        have f596 := ((P3.keep K588 nin0).other W591 (own_ne (by omega)))
        refine own_cV X591 hx hZ hown (wd31 hw) (wd32 hw) (notFace_of_selects (args := #[]) (mvT hZ (wd34 hw))) (wd34 hw) (wd33 hw) (by decide) (wd35 hw) (wd8 hw) (rm6d0 l Z a0 hw [] G1 G2 s1 ta kt (3 : Int32) [(.int y0), (.int y1), (.int y2)] h591 n0 (by omega) f592 A f593 f594 f595 f596) e591 f593 [] [(.int (3 : Int32))] 9 1 (hb hby d5_6) rfl (by rw [hml]; rfl) rfl rfl (lenOf pd_20 rfl) rfl (by decide) fun v597 T597 Lc597 X597 hQ597 => ?_
        obtain ⟨rfl, N597q, e597⟩ := hQ597
        have N597 := Fr.app N591 N597q
        refine own_kY 48 X597 hx (hb hby d5_9) rfl (flt (by decide : ¬ ((3 : Int32) < (3 : Int32)))).2.1 (by decide) (by decide) ?_
        as_aux_lemma =>
          refine own_ru 49 [(.ref ob_588)] X597 hx hby e5_48_1 rfl rfl ?_
          refine own_st 56 [] (fun t k => XS.ifnonnullYes X597.here hx rfl (pc0 := 49) (pc' := 56) rfl (hb hby d5_49) rfl (by decide) (by decide) k) ?_
          refine own_nO X597 hx hZ hown (wd96 hw) (wd7 hw) (wd8 hw) e597 59 (hb hby d5_56) rfl (by decide) (by decide) fun T598 h598 b598 g598 X598 e598 E598 A598 D598 UN598 => ?_
          have ll598 : @LT.lt Nat _ b598 (Array.size h598) := A598.lt
          have KK598 : Keep h0 h598 [] := KK591.ext E598
          have z598 := E598.1
          have F599 : fl2 Z h598 b598 .null := D598 (Or.inr (wd21 hw)) (ty := (.array .byte)) (by decide)
          have F600 : fl0 Z h598 b598 (.int (0 : Int32)) := D598 (Or.inr (wd22 hw)) (ty := .byte) (by decide)
          refine own_ru 61 [(.ref ob_588), (.ref b598), (.ref b598)] X598 hx hby e5_59_2 rfl rfl ?_
          have f601 := (f592.ext E598)
          have f602 := (V591.ext E598)
          refine own_cN X598 hx hZ hown rfl (wd97 hw) (wd10 hw) (by decide) (wd11 hw) (wd8 hw) (rm2n3 l Z a0 hw [] G1 G2 b598 ob_588 kc_588 (own_lc y0) (own_lc y1) (nar .char (own_low (own_lc y2))) h598 n0 (by omega) f601 A A598 F599 F600 f602 (by omega) (own_chn _) (own_chn _) (own_chn _) (by first | assumption | decide | omega)) e598  [(.ref ob_588)] [(.ref b598)] 64 1 (hb hby d5_61) rfl (by rw [hml]; rfl) rfl rfl (lenOf pd_24 rfl) rfl (by decide) fun v603 T603 Lc603 X603 hQ603 => ?_
          obtain ⟨rfl, N603q, K603, G603_0⟩ := hQ603
          have N603 := Fr.app N597 N603q
          have z603 := K603.1
          have KK603 : Keep h0 T603.heap [] := KK598.trans K603 (allS (Or.inr (by omega)) all0)
          have hq604 : Q5n30 Z G1 G2 s1 ta kt x0 x1 x2 y0 y1 y2 h0 n0 (some (.ref b598)) T603.heap _ := ⟨b598, rfl, N603, KK603, Or.inr ⟨by rw [← (show (own_lc y0) = own_low x0 by rw [← he0]; exact hc23), ← (show (own_lc y1) = own_low x1 by rw [← he1]; exact hc23b), ← (show nar .char (own_low (own_lc y2)) = own_low x2 by rw [he2]; exact own_nch (own_lowCh hx2))]; exact G603_0, fun q => hc23bb (by rw [he2]; exact q.2.2)⟩⟩
          exact own_retR X603 hx hlk (w := (.ref b598)) rfl hrt rfl (hb hby d5_64) rfl hq604 (by decide) (by decide)
    · refine own_kN 26 X582 hx (hb hby d5_23) rfl (feq hc23b).1 rfl ?_
      refine own_ru 27 [.null] X582 hx hby e5_26_1 rfl rfl ?_
      refine own_st 30 [] (fun t k => XS.ifnonnullNo X582.here hx rfl (hb hby d5_27) rfl k) ?_
      refine own_ru 31 [(.ref s1)] X582 hx hby e5_30_1 rfl rfl ?_
      refine own_cV X582 hx hZ hown (wd85 hw) (wd86 hw) (notFace_of_selects (args := #[]) (mvT hZ (wd88 hw))) (wd88 hw) (wd87 hw) (by decide) (wd89 hw) (wd8 hw) (rm19n30 l Z a0 hw [] G1 G2 s1 ta kt y0 y1 y2 h0 n0 (by omega) OLD A P0 P1 P2 P3) e582 P0 [] [] 34 0 (hb hby d5_31) rfl (by rw [hml]; rfl) rfl rfl (lenOf pd_23 rfl) rfl (by decide) fun v605 T605 Lc605 X605 hQ605 => ?_
      obtain ⟨ob_605, kc_605, rfl, N605q, K605, G605_0, U605_0⟩ := hQ605
      have N605 := Fr.app N582 N605q
      have z605 := K605.1
      have KK605 : Keep h0 T605.heap [] := (Keep.refl h0 []).trans K605 all0
      have lt605_0 : @LT.lt Nat _ ob_605 (Array.size T605.heap) := G605_0.lt
      refine own_rl 38 #[.val (.ref s1), .val (.ref ob_605), .val (.int (1 : Int32)), .val (.int (own_lc y1))] [(.int (own_lc y1)), (.int (1 : Int32)), (.ref ob_605)] X605 hx hby e5_34_4 rfl rfl ?_
      refine own_cS X605 hx hZ hown (wd75 hw) (wd76 hw) (by decide) (wd77 hw) (wd29 hw) (rm16 l Z a0 hw [] (own_lc y1) T605.heap n0 (by omega) (by rw [he1]; exact hx1)) rfl  [(.int (own_lc y1))] [(.int (1 : Int32)), (.ref ob_605)] 41 2 (hb hby d5_38) rfl (by rw [hml]; rfl) rfl rfl (lenOf pd_22 rfl) rfl (by decide) fun v606 T606 Lc606 X606 hQ606 => ?_
      obtain ⟨rfl, N606q, e606⟩ := hQ606
      have N606 := Fr.app N605 N606q
      obtain ⟨cl607, Ar607, q607, S607, N607z, Hs607, G607⟩ := id G605_0
      have hin607 : ¬ ((1 : Int32) < 0 ∨ cl607.slots.size ≤ ((1 : Int32)).toNatClampNeg) := inb_of S607 ⟨by decide, by decide⟩
      obtain ⟨T608, h608, X608, e608, W608, st608⟩ := stC X606 hx hZ e606 Ar607 (j := (1 : Int32)) hin607 (g := (mkF m 41 #[.val (.ref s1), .val (.ref ob_605), .val (.int (1 : Int32)), .val (.int (own_lc y1))] [(.int (own_low (own_lc y1))), (.int (1 : Int32)), (.ref ob_605)])) rfl rfl (hb hby d5_41)
      have V608 : Arv Z h608 ob_605 kc_605 .char (3 : Int32) [(.int (own_lc y0)), (.int (nar .char (own_low (own_lc y1)))), (.int (own_lc y2))] (.int (0 : Int32)) := Arv.set Ar607 q607 S607 N607z Hs607 G607 (fits_nar_char _) W608 1 rfl (Nat.le_of_ble_eq_true rfl)
      have z608 := W608.size
      have KK608 : Keep h0 h608 [] := KK605.wr W608 (Or.inr (by omega))
      have N608 := Fr.snoc X608 N606 (by omega)
      refine own_sT 42 [] st608 ?_
      refine own_rl 45 #[.val (.ref s1), .val (.ref ob_605), .val (.int (2 : Int32)), .val (.int (own_lc y1))] [] X608 hx hby e5_42_1 rfl rfl ?_
      refine own_go 4 X608 hx (hb hby d5_45) (by decide) (by decide) ?_
      refine own_ru 6 [(.ref s1), (.int (2 : Int32))] X608 hx hby e5_4_2 rfl rfl ?_
      have f609 := ((OLD.keep K605 all0).wr W608 (by omega))
      have f610 := (Exa.wr W608 (Exa.keep P0 K605))
      have f611 := (Fld.other W608 (P1.keep K605 nin0) (Or.inl (own_ne (by omega))))
      have f612 := (Fld.other W608 (P2.keep K605 nin0) (Or.inl (own_ne (by omega))))
      have f613 := ((P3.keep K605 nin0).other W608 (own_ne (by omega)))
      refine own_cV X608 hx hZ hown (wd31 hw) (wd32 hw) (notFace_of_selects (args := #[]) (mvT hZ (wd34 hw))) (wd34 hw) (wd33 hw) (by decide) (wd35 hw) (wd8 hw) (rm6d0 l Z a0 hw [] G1 G2 s1 ta kt (3 : Int32) [(.int y0), (.int y1), (.int y2)] h608 n0 (by omega) f609 A f610 f611 f612 f613) e608 f610 [] [(.int (2 : Int32))] 9 1 (hb hby d5_6) rfl (by rw [hml]; rfl) rfl rfl (lenOf pd_20 rfl) rfl (by decide) fun v614 T614 Lc614 X614 hQ614 => ?_
      obtain ⟨rfl, N614q, e614⟩ := hQ614
      have N614 := Fr.app N608 N614q
      refine own_kN 12 X614 hx (hb hby d5_9) rfl (tlt (by decide : ((2 : Int32) < (3 : Int32)))).2.1 rfl ?_
      refine own_ru 14 [(.int (2 : Int32)), (.ref s1)] X614 hx hby e5_12_2 rfl rfl ?_
      refine own_cV X614 hx hZ hown (wd53 hw) (wd54 hw) (notFace_of_selects (args := #[]) (mvT hZ (wd56 hw))) (wd56 hw) (wd55 hw) (by decide) (wd57 hw) (wd8 hw) (rm11l l Z a0 hw [] G1 G2 s1 (2 : Int32) ta kt (3 : Int32) [(.int y0), (.int y1), (.int y2)] y2 h608 n0 (by omega) f609 A f610 f611 f612 f613 (by decide) (by decide) rfl) e614 f610 [(.int (2 : Int32))] [] 17 0 (hb hby d5_14) rfl (by rw [hml]; rfl) rfl rfl (lenOf pd_21 rfl) rfl (by decide) fun v615 T615 Lc615 X615 hQ615 => ?_
      obtain ⟨rfl, N615q, e615⟩ := hQ615
      have N615 := Fr.app N614 N615q
      refine own_rl 20 #[.val (.ref s1), .val (.ref ob_605), .val (.int (2 : Int32)), .val (.int (own_lc y2))] [(.int (own_lc y2)), (.int (own_lc y2))] X615 hx hby e5_17_3 rfl rfl ?_
      refine own_cS X615 hx hZ hown (wd75 hw) (wd76 hw) (by decide) (wd77 hw) (wd29 hw) (rm16 l Z a0 hw [] (own_lc y2) h608 n0 (by omega) (by rw [he2]; exact hx2)) e615  [(.int (own_lc y2))] [(.int (own_lc y2))] 23 1 (hb hby d5_20) rfl (by rw [hml]; rfl) rfl rfl (lenOf pd_22 rfl) rfl (by decide) fun v616 T616 Lc616 X616 hQ616 => ?_
      obtain ⟨rfl, N616q, e616⟩ := hQ616
      have N616 := Fr.app N615 N616q
      by_cases hc23bb : (own_lc y2) = (own_low (own_lc y2))
      · refine own_kY 42 X616 hx (hb hby d5_23) rfl (teq hc23bb).1 (by decide) (by decide) ?_
        refine own_rl 45 #[.val (.ref s1), .val (.ref ob_605), .val (.int (3 : Int32)), .val (.int (own_lc y2))] [] X616 hx hby e5_42_1 rfl rfl ?_
        refine own_go 4 X616 hx (hb hby d5_45) (by decide) (by decide) ?_
        refine own_ru 6 [(.ref s1), (.int (3 : Int32))] X616 hx hby e5_4_2 rfl rfl ?_
        refine own_cV X616 hx hZ hown (wd31 hw) (wd32 hw) (notFace_of_selects (args := #[]) (mvT hZ (wd34 hw))) (wd34 hw) (wd33 hw) (by decide) (wd35 hw) (wd8 hw) (rm6d0 l Z a0 hw [] G1 G2 s1 ta kt (3 : Int32) [(.int y0), (.int y1), (.int y2)] h608 n0 (by omega) f609 A f610 f611 f612 f613) e616 f610 [] [(.int (3 : Int32))] 9 1 (hb hby d5_6) rfl (by rw [hml]; rfl) rfl rfl (lenOf pd_20 rfl) rfl (by decide) fun v617 T617 Lc617 X617 hQ617 => ?_
        obtain ⟨rfl, N617q, e617⟩ := hQ617
        have N617 := Fr.app N616 N617q
        refine own_kY 48 X617 hx (hb hby d5_9) rfl (flt (by decide : ¬ ((3 : Int32) < (3 : Int32)))).2.1 (by decide) (by decide) ?_
        as_aux_lemma =>
          refine own_ru 49 [(.ref ob_605)] X617 hx hby e5_48_1 rfl rfl ?_
          refine own_st 56 [] (fun t k => XS.ifnonnullYes X617.here hx rfl (pc0 := 49) (pc' := 56) rfl (hb hby d5_49) rfl (by decide) (by decide) k) ?_
          refine own_nO X617 hx hZ hown (wd96 hw) (wd7 hw) (wd8 hw) e617 59 (hb hby d5_56) rfl (by decide) (by decide) fun T618 h618 b618 g618 X618 e618 E618 A618 D618 UN618 => ?_
          have ll618 : @LT.lt Nat _ b618 (Array.size h618) := A618.lt
          have KK618 : Keep h0 h618 [] := KK608.ext E618
          have z618 := E618.1
          have F619 : fl2 Z h618 b618 .null := D618 (Or.inr (wd21 hw)) (ty := (.array .byte)) (by decide)
          have F620 : fl0 Z h618 b618 (.int (0 : Int32)) := D618 (Or.inr (wd22 hw)) (ty := .byte) (by decide)
          refine own_ru 61 [(.ref ob_605), (.ref b618), (.ref b618)] X618 hx hby e5_59_2 rfl rfl ?_
          have f621 := (f609.ext E618)
          have f622 := (V608.ext E618)
          refine own_cN X618 hx hZ hown rfl (wd97 hw) (wd10 hw) (by decide) (wd11 hw) (wd8 hw) (rm2n3 l Z a0 hw [] G1 G2 b618 ob_605 kc_605 (own_lc y0) (nar .char (own_low (own_lc y1))) (own_lc y2) h618 n0 (by omega) f621 A A618 F619 F620 f622 (by omega) (own_chn _) (own_chn _) (own_chn _) (by first | assumption | decide | omega)) e618  [(.ref ob_605)] [(.ref b618)] 64 1 (hb hby d5_61) rfl (by rw [hml]; rfl) rfl rfl (lenOf pd_24 rfl) rfl (by decide) fun v623 T623 Lc623 X623 hQ623 => ?_
          obtain ⟨rfl, N623q, K623, G623_0⟩ := hQ623
          have N623 := Fr.app N617 N623q
          have z623 := K623.1
          have KK623 : Keep h0 T623.heap [] := KK618.trans K623 (allS (Or.inr (by omega)) all0)
          have hq624 : Q5n30 Z G1 G2 s1 ta kt x0 x1 x2 y0 y1 y2 h0 n0 (some (.ref b618)) T623.heap _ := ⟨b618, rfl, N623, KK623, Or.inr ⟨by rw [← (show (own_lc y0) = own_low x0 by rw [← he0]; exact hc23), ← (show nar .char (own_low (own_lc y1)) = own_low x1 by rw [he1]; exact own_nch (own_lowCh hx1)), ← (show (own_lc y2) = own_low x2 by rw [← he2]; exact hc23bb)]; exact G623_0, fun q => hc23b (by rw [he1]; exact q.2.1)⟩⟩
          exact own_retR X623 hx hlk (w := (.ref b618)) rfl hrt rfl (hb hby d5_64) rfl hq624 (by decide) (by decide)
      · refine own_kN 26 X616 hx (hb hby d5_23) rfl (feq hc23bb).1 rfl ?_
        refine own_ru 27 [(.ref ob_605)] X616 hx hby e5_26_1 rfl rfl ?_
        refine own_st 35 [] (fun t k => XS.ifnonnullYes X616.here hx rfl (pc0 := 27) (pc' := 35) rfl (hb hby d5_27) rfl (by decide) (by decide) k) ?_
        refine own_ru 38 [(.int (own_lc y2)), (.int (2 : Int32)), (.ref ob_605)] X616 hx hby e5_35_3 rfl rfl ?_
        refine own_cS X616 hx hZ hown (wd75 hw) (wd76 hw) (by decide) (wd77 hw) (wd29 hw) (rm16 l Z a0 hw [] (own_lc y2) h608 n0 (by omega) (by rw [he2]; exact hx2)) e616  [(.int (own_lc y2))] [(.int (2 : Int32)), (.ref ob_605)] 41 2 (hb hby d5_38) rfl (by rw [hml]; rfl) rfl rfl (lenOf pd_22 rfl) rfl (by decide) fun v625 T625 Lc625 X625 hQ625 => ?_
        obtain ⟨rfl, N625q, e625⟩ := hQ625
        have N625 := Fr.app N616 N625q
        as_aux_lemma =>
          obtain ⟨cl626, Ar626, q626, S626, N626z, Hs626, G626⟩ := id V608
          have hin626 : ¬ ((2 : Int32) < 0 ∨ cl626.slots.size ≤ ((2 : Int32)).toNatClampNeg) := inb_of S626 ⟨by decide, by decide⟩
          obtain ⟨T627, h627, X627, e627, W627, st627⟩ := stC X625 hx hZ e625 Ar626 (j := (2 : Int32)) hin626 (g := (mkF m 41 #[.val (.ref s1), .val (.ref ob_605), .val (.int (2 : Int32)), .val (.int (own_lc y2))] [(.int (own_low (own_lc y2))), (.int (2 : Int32)), (.ref ob_605)])) rfl rfl (hb hby d5_41)
          have V627 : Arv Z h627 ob_605 kc_605 .char (3 : Int32) [(.int (own_lc y0)), (.int (nar .char (own_low (own_lc y1)))), (.int (nar .char (own_low (own_lc y2))))] (.int (0 : Int32)) := Arv.set Ar626 q626 S626 N626z Hs626 G626 (fits_nar_char _) W627 2 rfl (Nat.le_of_ble_eq_true rfl)
          have z627 := W627.size
          have KK627 : Keep h0 h627 [] := KK608.wr W627 (Or.inr (by omega))
          have N627 := Fr.snoc X627 N625 (by omega)
          refine own_sT 42 [] st627 ?_
          refine own_rl 45 #[.val (.ref s1), .val (.ref ob_605), .val (.int (3 : Int32)), .val (.int (own_lc y2))] [] X627 hx hby e5_42_1 rfl rfl ?_
          refine own_go 4 X627 hx (hb hby d5_45) (by decide) (by decide) ?_
          refine own_ru 6 [(.ref s1), (.int (3 : Int32))] X627 hx hby e5_4_2 rfl rfl ?_
          have f628 := (f609.wr W627 (by omega))
          have f629 := (Exa.wr W627 f610)
          have f630 := (Fld.other W627 f611 (Or.inl (own_ne (by omega))))
          have f631 := (Fld.other W627 f612 (Or.inl (own_ne (by omega))))
          have f632 := (f613.other W627 (own_ne (by omega)))
          refine own_cV X627 hx hZ hown (wd31 hw) (wd32 hw) (notFace_of_selects (args := #[]) (mvT hZ (wd34 hw))) (wd34 hw) (wd33 hw) (by decide) (wd35 hw) (wd8 hw) (rm6d0 l Z a0 hw [] G1 G2 s1 ta kt (3 : Int32) [(.int y0), (.int y1), (.int y2)] h627 n0 (by omega) f628 A f629 f630 f631 f632) e627 f629 [] [(.int (3 : Int32))] 9 1 (hb hby d5_6) rfl (by rw [hml]; rfl) rfl rfl (lenOf pd_20 rfl) rfl (by decide) fun v633 T633 Lc633 X633 hQ633 => ?_
          obtain ⟨rfl, N633q, e633⟩ := hQ633
          have N633 := Fr.app N627 N633q
          refine own_kY 48 X633 hx (hb hby d5_9) rfl (flt (by decide : ¬ ((3 : Int32) < (3 : Int32)))).2.1 (by decide) (by decide) ?_
          refine own_ru 49 [(.ref ob_605)] X633 hx hby e5_48_1 rfl rfl ?_
          refine own_st 56 [] (fun t k => XS.ifnonnullYes X633.here hx rfl (pc0 := 49) (pc' := 56) rfl (hb hby d5_49) rfl (by decide) (by decide) k) ?_
          refine own_nO X633 hx hZ hown (wd96 hw) (wd7 hw) (wd8 hw) e633 59 (hb hby d5_56) rfl (by decide) (by decide) fun T634 h634 b634 g634 X634 e634 E634 A634 D634 UN634 => ?_
          have ll634 : @LT.lt Nat _ b634 (Array.size h634) := A634.lt
          have KK634 : Keep h0 h634 [] := KK627.ext E634
          have z634 := E634.1
          have F635 : fl2 Z h634 b634 .null := D634 (Or.inr (wd21 hw)) (ty := (.array .byte)) (by decide)
          have F636 : fl0 Z h634 b634 (.int (0 : Int32)) := D634 (Or.inr (wd22 hw)) (ty := .byte) (by decide)
          refine own_ru 61 [(.ref ob_605), (.ref b634), (.ref b634)] X634 hx hby e5_59_2 rfl rfl ?_
          have f637 := (f628.ext E634)
          have f638 := (V627.ext E634)
          refine own_cN X634 hx hZ hown rfl (wd97 hw) (wd10 hw) (by decide) (wd11 hw) (wd8 hw) (rm2n3 l Z a0 hw [] G1 G2 b634 ob_605 kc_605 (own_lc y0) (nar .char (own_low (own_lc y1))) (nar .char (own_low (own_lc y2))) h634 n0 (by omega) f637 A A634 F635 F636 f638 (by omega) (own_chn _) (own_chn _) (own_chn _) (by first | assumption | decide | omega)) e634  [(.ref ob_605)] [(.ref b634)] 64 1 (hb hby d5_61) rfl (by rw [hml]; rfl) rfl rfl (lenOf pd_24 rfl) rfl (by decide) fun v639 T639 Lc639 X639 hQ639 => ?_
          obtain ⟨rfl, N639q, K639, G639_0⟩ := hQ639
          have N639 := Fr.app N633 N639q
          have z639 := K639.1
          have KK639 : Keep h0 T639.heap [] := KK634.trans K639 (allS (Or.inr (by omega)) all0)
          have hq640 : Q5n30 Z G1 G2 s1 ta kt x0 x1 x2 y0 y1 y2 h0 n0 (some (.ref b634)) T639.heap _ := ⟨b634, rfl, N639, KK639, Or.inr ⟨by rw [← (show (own_lc y0) = own_low x0 by rw [← he0]; exact hc23), ← (show nar .char (own_low (own_lc y1)) = own_low x1 by rw [he1]; exact own_nch (own_lowCh hx1)), ← (show nar .char (own_low (own_lc y2)) = own_low x2 by rw [he2]; exact own_nch (own_lowCh hx2))]; exact G639_0, fun q => hc23b (by rw [he1]; exact q.2.1)⟩⟩
          exact own_retR X639 hx hlk (w := (.ref b634)) rfl hrt rfl (hb hby d5_64) rfl hq640 (by decide) (by decide)
  · refine own_kN 26 X579 hx (hb hby d5_23) rfl (feq hc23).1 rfl ?_
    refine own_ru 27 [.null] X579 hx hby e5_26_1 rfl rfl ?_
    refine own_st 30 [] (fun t k => XS.ifnonnullNo X579.here hx rfl (hb hby d5_27) rfl k) ?_
    refine own_ru 31 [(.ref s1)] X579 hx hby e5_30_1 rfl rfl ?_
    refine own_cV X579 hx hZ hown (wd85 hw) (wd86 hw) (notFace_of_selects (args := #[]) (mvT hZ (wd88 hw))) (wd88 hw) (wd87 hw) (by decide) (wd89 hw) (wd8 hw) (rm19n30 l Z a0 hw [] G1 G2 s1 ta kt y0 y1 y2 h0 n0 (by omega) OLD A P0 P1 P2 P3) e579 P0 [] [] 34 0 (hb hby d5_31) rfl (by rw [hml]; rfl) rfl rfl (lenOf pd_23 rfl) rfl (by decide) fun v641 T641 Lc641 X641 hQ641 => ?_
    obtain ⟨ob_641, kc_641, rfl, N641q, K641, G641_0, U641_0⟩ := hQ641
    have N641 := Fr.app N579 N641q
    have z641 := K641.1
    have KK641 : Keep h0 T641.heap [] := (Keep.refl h0 []).trans K641 all0
    have lt641_0 : @LT.lt Nat _ ob_641 (Array.size T641.heap) := G641_0.lt
    refine own_rl 38 #[.val (.ref s1), .val (.ref ob_641), .val (.int (0 : Int32)), .val (.int (own_lc y0))] [(.int (own_lc y0)), (.int (0 : Int32)), (.ref ob_641)] X641 hx hby e5_34_4 rfl rfl ?_
    refine own_cS X641 hx hZ hown (wd75 hw) (wd76 hw) (by decide) (wd77 hw) (wd29 hw) (rm16 l Z a0 hw [] (own_lc y0) T641.heap n0 (by omega) (by rw [he0]; exact hx0)) rfl  [(.int (own_lc y0))] [(.int (0 : Int32)), (.ref ob_641)] 41 2 (hb hby d5_38) rfl (by rw [hml]; rfl) rfl rfl (lenOf pd_22 rfl) rfl (by decide) fun v642 T642 Lc642 X642 hQ642 => ?_
    obtain ⟨rfl, N642q, e642⟩ := hQ642
    have N642 := Fr.app N641 N642q
    obtain ⟨cl643, Ar643, q643, S643, N643z, Hs643, G643⟩ := id G641_0
    have hin643 : ¬ ((0 : Int32) < 0 ∨ cl643.slots.size ≤ ((0 : Int32)).toNatClampNeg) := inb_of S643 ⟨by decide, by decide⟩
    obtain ⟨T644, h644, X644, e644, W644, st644⟩ := stC X642 hx hZ e642 Ar643 (j := (0 : Int32)) hin643 (g := (mkF m 41 #[.val (.ref s1), .val (.ref ob_641), .val (.int (0 : Int32)), .val (.int (own_lc y0))] [(.int (own_low (own_lc y0))), (.int (0 : Int32)), (.ref ob_641)])) rfl rfl (hb hby d5_41)
    have V644 : Arv Z h644 ob_641 kc_641 .char (3 : Int32) [(.int (nar .char (own_low (own_lc y0)))), (.int (own_lc y1)), (.int (own_lc y2))] (.int (0 : Int32)) := Arv.set Ar643 q643 S643 N643z Hs643 G643 (fits_nar_char _) W644 0 rfl (Nat.le_of_ble_eq_true rfl)
    have z644 := W644.size
    have KK644 : Keep h0 h644 [] := KK641.wr W644 (Or.inr (by omega))
    have N644 := Fr.snoc X644 N642 (by omega)
    refine own_sT 42 [] st644 ?_
    refine own_rl 45 #[.val (.ref s1), .val (.ref ob_641), .val (.int (1 : Int32)), .val (.int (own_lc y0))] [] X644 hx hby e5_42_1 rfl rfl ?_
    refine own_go 4 X644 hx (hb hby d5_45) (by decide) (by decide) ?_
    refine own_ru 6 [(.ref s1), (.int (1 : Int32))] X644 hx hby e5_4_2 rfl rfl ?_
    have f645 := ((OLD.keep K641 all0).wr W644 (by omega))
    have f646 := (Exa.wr W644 (Exa.keep P0 K641))
    have f647 := (Fld.other W644 (P1.keep K641 nin0) (Or.inl (own_ne (by omega))))
    have f648 := (Fld.other W644 (P2.keep K641 nin0) (Or.inl (own_ne (by omega))))
    have f649 := ((P3.keep K641 nin0).other W644 (own_ne (by omega)))
    refine own_cV X644 hx hZ hown (wd31 hw) (wd32 hw) (notFace_of_selects (args := #[]) (mvT hZ (wd34 hw))) (wd34 hw) (wd33 hw) (by decide) (wd35 hw) (wd8 hw) (rm6d0 l Z a0 hw [] G1 G2 s1 ta kt (3 : Int32) [(.int y0), (.int y1), (.int y2)] h644 n0 (by omega) f645 A f646 f647 f648 f649) e644 f646 [] [(.int (1 : Int32))] 9 1 (hb hby d5_6) rfl (by rw [hml]; rfl) rfl rfl (lenOf pd_20 rfl) rfl (by decide) fun v650 T650 Lc650 X650 hQ650 => ?_
    obtain ⟨rfl, N650q, e650⟩ := hQ650
    have N650 := Fr.app N644 N650q
    refine own_kN 12 X650 hx (hb hby d5_9) rfl (tlt (by decide : ((1 : Int32) < (3 : Int32)))).2.1 rfl ?_
    refine own_ru 14 [(.int (1 : Int32)), (.ref s1)] X650 hx hby e5_12_2 rfl rfl ?_
    refine own_cV X650 hx hZ hown (wd53 hw) (wd54 hw) (notFace_of_selects (args := #[]) (mvT hZ (wd56 hw))) (wd56 hw) (wd55 hw) (by decide) (wd57 hw) (wd8 hw) (rm11l l Z a0 hw [] G1 G2 s1 (1 : Int32) ta kt (3 : Int32) [(.int y0), (.int y1), (.int y2)] y1 h644 n0 (by omega) f645 A f646 f647 f648 f649 (by decide) (by decide) rfl) e650 f646 [(.int (1 : Int32))] [] 17 0 (hb hby d5_14) rfl (by rw [hml]; rfl) rfl rfl (lenOf pd_21 rfl) rfl (by decide) fun v651 T651 Lc651 X651 hQ651 => ?_
    obtain ⟨rfl, N651q, e651⟩ := hQ651
    have N651 := Fr.app N650 N651q
    refine own_rl 20 #[.val (.ref s1), .val (.ref ob_641), .val (.int (1 : Int32)), .val (.int (own_lc y1))] [(.int (own_lc y1)), (.int (own_lc y1))] X651 hx hby e5_17_3 rfl rfl ?_
    refine own_cS X651 hx hZ hown (wd75 hw) (wd76 hw) (by decide) (wd77 hw) (wd29 hw) (rm16 l Z a0 hw [] (own_lc y1) h644 n0 (by omega) (by rw [he1]; exact hx1)) e651  [(.int (own_lc y1))] [(.int (own_lc y1))] 23 1 (hb hby d5_20) rfl (by rw [hml]; rfl) rfl rfl (lenOf pd_22 rfl) rfl (by decide) fun v652 T652 Lc652 X652 hQ652 => ?_
    obtain ⟨rfl, N652q, e652⟩ := hQ652
    have N652 := Fr.app N651 N652q
    by_cases hc23b : (own_lc y1) = (own_low (own_lc y1))
    · refine own_kY 42 X652 hx (hb hby d5_23) rfl (teq hc23b).1 (by decide) (by decide) ?_
      refine own_rl 45 #[.val (.ref s1), .val (.ref ob_641), .val (.int (2 : Int32)), .val (.int (own_lc y1))] [] X652 hx hby e5_42_1 rfl rfl ?_
      refine own_go 4 X652 hx (hb hby d5_45) (by decide) (by decide) ?_
      refine own_ru 6 [(.ref s1), (.int (2 : Int32))] X652 hx hby e5_4_2 rfl rfl ?_
      refine own_cV X652 hx hZ hown (wd31 hw) (wd32 hw) (notFace_of_selects (args := #[]) (mvT hZ (wd34 hw))) (wd34 hw) (wd33 hw) (by decide) (wd35 hw) (wd8 hw) (rm6d0 l Z a0 hw [] G1 G2 s1 ta kt (3 : Int32) [(.int y0), (.int y1), (.int y2)] h644 n0 (by omega) f645 A f646 f647 f648 f649) e652 f646 [] [(.int (2 : Int32))] 9 1 (hb hby d5_6) rfl (by rw [hml]; rfl) rfl rfl (lenOf pd_20 rfl) rfl (by decide) fun v653 T653 Lc653 X653 hQ653 => ?_
      obtain ⟨rfl, N653q, e653⟩ := hQ653
      have N653 := Fr.app N652 N653q
      refine own_kN 12 X653 hx (hb hby d5_9) rfl (tlt (by decide : ((2 : Int32) < (3 : Int32)))).2.1 rfl ?_
      refine own_ru 14 [(.int (2 : Int32)), (.ref s1)] X653 hx hby e5_12_2 rfl rfl ?_
      refine own_cV X653 hx hZ hown (wd53 hw) (wd54 hw) (notFace_of_selects (args := #[]) (mvT hZ (wd56 hw))) (wd56 hw) (wd55 hw) (by decide) (wd57 hw) (wd8 hw) (rm11l l Z a0 hw [] G1 G2 s1 (2 : Int32) ta kt (3 : Int32) [(.int y0), (.int y1), (.int y2)] y2 h644 n0 (by omega) f645 A f646 f647 f648 f649 (by decide) (by decide) rfl) e653 f646 [(.int (2 : Int32))] [] 17 0 (hb hby d5_14) rfl (by rw [hml]; rfl) rfl rfl (lenOf pd_21 rfl) rfl (by decide) fun v654 T654 Lc654 X654 hQ654 => ?_
      obtain ⟨rfl, N654q, e654⟩ := hQ654
      have N654 := Fr.app N653 N654q
      refine own_rl 20 #[.val (.ref s1), .val (.ref ob_641), .val (.int (2 : Int32)), .val (.int (own_lc y2))] [(.int (own_lc y2)), (.int (own_lc y2))] X654 hx hby e5_17_3 rfl rfl ?_
      refine own_cS X654 hx hZ hown (wd75 hw) (wd76 hw) (by decide) (wd77 hw) (wd29 hw) (rm16 l Z a0 hw [] (own_lc y2) h644 n0 (by omega) (by rw [he2]; exact hx2)) e654  [(.int (own_lc y2))] [(.int (own_lc y2))] 23 1 (hb hby d5_20) rfl (by rw [hml]; rfl) rfl rfl (lenOf pd_22 rfl) rfl (by decide) fun v655 T655 Lc655 X655 hQ655 => ?_
      obtain ⟨rfl, N655q, e655⟩ := hQ655
      have N655 := Fr.app N654 N655q
      by_cases hc23bb : (own_lc y2) = (own_low (own_lc y2))
      · refine own_kY 42 X655 hx (hb hby d5_23) rfl (teq hc23bb).1 (by decide) (by decide) ?_
        refine own_rl 45 #[.val (.ref s1), .val (.ref ob_641), .val (.int (3 : Int32)), .val (.int (own_lc y2))] [] X655 hx hby e5_42_1 rfl rfl ?_
        refine own_go 4 X655 hx (hb hby d5_45) (by decide) (by decide) ?_
        refine own_ru 6 [(.ref s1), (.int (3 : Int32))] X655 hx hby e5_4_2 rfl rfl ?_
        refine own_cV X655 hx hZ hown (wd31 hw) (wd32 hw) (notFace_of_selects (args := #[]) (mvT hZ (wd34 hw))) (wd34 hw) (wd33 hw) (by decide) (wd35 hw) (wd8 hw) (rm6d0 l Z a0 hw [] G1 G2 s1 ta kt (3 : Int32) [(.int y0), (.int y1), (.int y2)] h644 n0 (by omega) f645 A f646 f647 f648 f649) e655 f646 [] [(.int (3 : Int32))] 9 1 (hb hby d5_6) rfl (by rw [hml]; rfl) rfl rfl (lenOf pd_20 rfl) rfl (by decide) fun v656 T656 Lc656 X656 hQ656 => ?_
        obtain ⟨rfl, N656q, e656⟩ := hQ656
        have N656 := Fr.app N655 N656q
        refine own_kY 48 X656 hx (hb hby d5_9) rfl (flt (by decide : ¬ ((3 : Int32) < (3 : Int32)))).2.1 (by decide) (by decide) ?_
        as_aux_lemma =>
          refine own_ru 49 [(.ref ob_641)] X656 hx hby e5_48_1 rfl rfl ?_
          refine own_st 56 [] (fun t k => XS.ifnonnullYes X656.here hx rfl (pc0 := 49) (pc' := 56) rfl (hb hby d5_49) rfl (by decide) (by decide) k) ?_
          refine own_nO X656 hx hZ hown (wd96 hw) (wd7 hw) (wd8 hw) e656 59 (hb hby d5_56) rfl (by decide) (by decide) fun T657 h657 b657 g657 X657 e657 E657 A657 D657 UN657 => ?_
          have ll657 : @LT.lt Nat _ b657 (Array.size h657) := A657.lt
          have KK657 : Keep h0 h657 [] := KK644.ext E657
          have z657 := E657.1
          have F658 : fl2 Z h657 b657 .null := D657 (Or.inr (wd21 hw)) (ty := (.array .byte)) (by decide)
          have F659 : fl0 Z h657 b657 (.int (0 : Int32)) := D657 (Or.inr (wd22 hw)) (ty := .byte) (by decide)
          refine own_ru 61 [(.ref ob_641), (.ref b657), (.ref b657)] X657 hx hby e5_59_2 rfl rfl ?_
          have f660 := (f645.ext E657)
          have f661 := (V644.ext E657)
          refine own_cN X657 hx hZ hown rfl (wd97 hw) (wd10 hw) (by decide) (wd11 hw) (wd8 hw) (rm2n3 l Z a0 hw [] G1 G2 b657 ob_641 kc_641 (nar .char (own_low (own_lc y0))) (own_lc y1) (own_lc y2) h657 n0 (by omega) f660 A A657 F658 F659 f661 (by omega) (own_chn _) (own_chn _) (own_chn _) (by first | assumption | decide | omega)) e657  [(.ref ob_641)] [(.ref b657)] 64 1 (hb hby d5_61) rfl (by rw [hml]; rfl) rfl rfl (lenOf pd_24 rfl) rfl (by decide) fun v662 T662 Lc662 X662 hQ662 => ?_
          obtain ⟨rfl, N662q, K662, G662_0⟩ := hQ662
          have N662 := Fr.app N656 N662q
          have z662 := K662.1
          have KK662 : Keep h0 T662.heap [] := KK657.trans K662 (allS (Or.inr (by omega)) all0)
          have hq663 : Q5n30 Z G1 G2 s1 ta kt x0 x1 x2 y0 y1 y2 h0 n0 (some (.ref b657)) T662.heap _ := ⟨b657, rfl, N662, KK662, Or.inr ⟨by rw [← (show nar .char (own_low (own_lc y0)) = own_low x0 by rw [he0]; exact own_nch (own_lowCh hx0)), ← (show (own_lc y1) = own_low x1 by rw [← he1]; exact hc23b), ← (show (own_lc y2) = own_low x2 by rw [← he2]; exact hc23bb)]; exact G662_0, fun q => hc23 (by rw [he0]; exact q.1)⟩⟩
          exact own_retR X662 hx hlk (w := (.ref b657)) rfl hrt rfl (hb hby d5_64) rfl hq663 (by decide) (by decide)
      · refine own_kN 26 X655 hx (hb hby d5_23) rfl (feq hc23bb).1 rfl ?_
        refine own_ru 27 [(.ref ob_641)] X655 hx hby e5_26_1 rfl rfl ?_
        refine own_st 35 [] (fun t k => XS.ifnonnullYes X655.here hx rfl (pc0 := 27) (pc' := 35) rfl (hb hby d5_27) rfl (by decide) (by decide) k) ?_
        refine own_ru 38 [(.int (own_lc y2)), (.int (2 : Int32)), (.ref ob_641)] X655 hx hby e5_35_3 rfl rfl ?_
        refine own_cS X655 hx hZ hown (wd75 hw) (wd76 hw) (by decide) (wd77 hw) (wd29 hw) (rm16 l Z a0 hw [] (own_lc y2) h644 n0 (by omega) (by rw [he2]; exact hx2)) e655  [(.int (own_lc y2))] [(.int (2 : Int32)), (.ref ob_641)] 41 2 (hb hby d5_38) rfl (by rw [hml]; rfl) rfl rfl (lenOf pd_22 rfl) rfl (by decide) fun v664 T664 Lc664 X664 hQ664 => ?_
        obtain ⟨rfl, N664q, e664⟩ := hQ664
        have N664 := Fr.app N655 N664q
        as_aux_lemma =>
          obtain ⟨cl665, Ar665, q665, S665, N665z, Hs665, G665⟩ := id V644
          have hin665 : ¬ ((2 : Int32) < 0 ∨ cl665.slots.size ≤ ((2 : Int32)).toNatClampNeg) := inb_of S665 ⟨by decide, by decide⟩
          obtain ⟨T666, h666, X666, e666, W666, st666⟩ := stC X664 hx hZ e664 Ar665 (j := (2 : Int32)) hin665 (g := (mkF m 41 #[.val (.ref s1), .val (.ref ob_641), .val (.int (2 : Int32)), .val (.int (own_lc y2))] [(.int (own_low (own_lc y2))), (.int (2 : Int32)), (.ref ob_641)])) rfl rfl (hb hby d5_41)
          have V666 : Arv Z h666 ob_641 kc_641 .char (3 : Int32) [(.int (nar .char (own_low (own_lc y0)))), (.int (own_lc y1)), (.int (nar .char (own_low (own_lc y2))))] (.int (0 : Int32)) := Arv.set Ar665 q665 S665 N665z Hs665 G665 (fits_nar_char _) W666 2 rfl (Nat.le_of_ble_eq_true rfl)
          have z666 := W666.size
          have KK666 : Keep h0 h666 [] := KK644.wr W666 (Or.inr (by omega))
          have N666 := Fr.snoc X666 N664 (by omega)
          refine own_sT 42 [] st666 ?_
          refine own_rl 45 #[.val (.ref s1), .val (.ref ob_641), .val (.int (3 : Int32)), .val (.int (own_lc y2))] [] X666 hx hby e5_42_1 rfl rfl ?_
          refine own_go 4 X666 hx (hb hby d5_45) (by decide) (by decide) ?_
          refine own_ru 6 [(.ref s1), (.int (3 : Int32))] X666 hx hby e5_4_2 rfl rfl ?_
          have f667 := (f645.wr W666 (by omega))
          have f668 := (Exa.wr W666 f646)
          have f669 := (Fld.other W666 f647 (Or.inl (own_ne (by omega))))
          have f670 := (Fld.other W666 f648 (Or.inl (own_ne (by omega))))
          have f671 := (f649.other W666 (own_ne (by omega)))
          refine own_cV X666 hx hZ hown (wd31 hw) (wd32 hw) (notFace_of_selects (args := #[]) (mvT hZ (wd34 hw))) (wd34 hw) (wd33 hw) (by decide) (wd35 hw) (wd8 hw) (rm6d0 l Z a0 hw [] G1 G2 s1 ta kt (3 : Int32) [(.int y0), (.int y1), (.int y2)] h666 n0 (by omega) f667 A f668 f669 f670 f671) e666 f668 [] [(.int (3 : Int32))] 9 1 (hb hby d5_6) rfl (by rw [hml]; rfl) rfl rfl (lenOf pd_20 rfl) rfl (by decide) fun v672 T672 Lc672 X672 hQ672 => ?_
          obtain ⟨rfl, N672q, e672⟩ := hQ672
          have N672 := Fr.app N666 N672q
          refine own_kY 48 X672 hx (hb hby d5_9) rfl (flt (by decide : ¬ ((3 : Int32) < (3 : Int32)))).2.1 (by decide) (by decide) ?_
          refine own_ru 49 [(.ref ob_641)] X672 hx hby e5_48_1 rfl rfl ?_
          refine own_st 56 [] (fun t k => XS.ifnonnullYes X672.here hx rfl (pc0 := 49) (pc' := 56) rfl (hb hby d5_49) rfl (by decide) (by decide) k) ?_
          refine own_nO X672 hx hZ hown (wd96 hw) (wd7 hw) (wd8 hw) e672 59 (hb hby d5_56) rfl (by decide) (by decide) fun T673 h673 b673 g673 X673 e673 E673 A673 D673 UN673 => ?_
          have ll673 : @LT.lt Nat _ b673 (Array.size h673) := A673.lt
          have KK673 : Keep h0 h673 [] := KK666.ext E673
          have z673 := E673.1
          have F674 : fl2 Z h673 b673 .null := D673 (Or.inr (wd21 hw)) (ty := (.array .byte)) (by decide)
          have F675 : fl0 Z h673 b673 (.int (0 : Int32)) := D673 (Or.inr (wd22 hw)) (ty := .byte) (by decide)
          refine own_ru 61 [(.ref ob_641), (.ref b673), (.ref b673)] X673 hx hby e5_59_2 rfl rfl ?_
          have f676 := (f667.ext E673)
          have f677 := (V666.ext E673)
          refine own_cN X673 hx hZ hown rfl (wd97 hw) (wd10 hw) (by decide) (wd11 hw) (wd8 hw) (rm2n3 l Z a0 hw [] G1 G2 b673 ob_641 kc_641 (nar .char (own_low (own_lc y0))) (own_lc y1) (nar .char (own_low (own_lc y2))) h673 n0 (by omega) f676 A A673 F674 F675 f677 (by omega) (own_chn _) (own_chn _) (own_chn _) (by first | assumption | decide | omega)) e673  [(.ref ob_641)] [(.ref b673)] 64 1 (hb hby d5_61) rfl (by rw [hml]; rfl) rfl rfl (lenOf pd_24 rfl) rfl (by decide) fun v678 T678 Lc678 X678 hQ678 => ?_
          obtain ⟨rfl, N678q, K678, G678_0⟩ := hQ678
          have N678 := Fr.app N672 N678q
          have z678 := K678.1
          have KK678 : Keep h0 T678.heap [] := KK673.trans K678 (allS (Or.inr (by omega)) all0)
          have hq679 : Q5n30 Z G1 G2 s1 ta kt x0 x1 x2 y0 y1 y2 h0 n0 (some (.ref b673)) T678.heap _ := ⟨b673, rfl, N678, KK678, Or.inr ⟨by rw [← (show nar .char (own_low (own_lc y0)) = own_low x0 by rw [he0]; exact own_nch (own_lowCh hx0)), ← (show (own_lc y1) = own_low x1 by rw [← he1]; exact hc23b), ← (show nar .char (own_low (own_lc y2)) = own_low x2 by rw [he2]; exact own_nch (own_lowCh hx2))]; exact G678_0, fun q => hc23 (by rw [he0]; exact q.1)⟩⟩
          exact own_retR X678 hx hlk (w := (.ref b673)) rfl hrt rfl (hb hby d5_64) rfl hq679 (by decide) (by decide)
    · refine own_kN 26 X652 hx (hb hby d5_23) rfl (feq hc23b).1 rfl ?_
      refine own_ru 27 [(.ref ob_641)] X652 hx hby e5_26_1 rfl rfl ?_
      refine own_st 35 [] (fun t k => XS.ifnonnullYes X652.here hx rfl (pc0 := 27) (pc' := 35) rfl (hb hby d5_27) rfl (by decide) (by decide) k) ?_
      refine own_ru 38 [(.int (own_lc y1)), (.int (1 : Int32)), (.ref ob_641)] X652 hx hby e5_35_3 rfl rfl ?_
      refine own_cS X652 hx hZ hown (wd75 hw) (wd76 hw) (by decide) (wd77 hw) (wd29 hw) (rm16 l Z a0 hw [] (own_lc y1) h644 n0 (by omega) (by rw [he1]; exact hx1)) e652  [(.int (own_lc y1))] [(.int (1 : Int32)), (.ref ob_641)] 41 2 (hb hby d5_38) rfl (by rw [hml]; rfl) rfl rfl (lenOf pd_22 rfl) rfl (by decide) fun v680 T680 Lc680 X680 hQ680 => ?_
      obtain ⟨rfl, N680q, e680⟩ := hQ680
      have N680 := Fr.app N652 N680q
      obtain ⟨cl681, Ar681, q681, S681, N681z, Hs681, G681⟩ := id V644
      have hin681 : ¬ ((1 : Int32) < 0 ∨ cl681.slots.size ≤ ((1 : Int32)).toNatClampNeg) := inb_of S681 ⟨by decide, by decide⟩
      obtain ⟨T682, h682, X682, e682, W682, st682⟩ := stC X680 hx hZ e680 Ar681 (j := (1 : Int32)) hin681 (g := (mkF m 41 #[.val (.ref s1), .val (.ref ob_641), .val (.int (1 : Int32)), .val (.int (own_lc y1))] [(.int (own_low (own_lc y1))), (.int (1 : Int32)), (.ref ob_641)])) rfl rfl (hb hby d5_41)
      have V682 : Arv Z h682 ob_641 kc_641 .char (3 : Int32) [(.int (nar .char (own_low (own_lc y0)))), (.int (nar .char (own_low (own_lc y1)))), (.int (own_lc y2))] (.int (0 : Int32)) := Arv.set Ar681 q681 S681 N681z Hs681 G681 (fits_nar_char _) W682 1 rfl (Nat.le_of_ble_eq_true rfl)
      have z682 := W682.size
      have KK682 : Keep h0 h682 [] := KK644.wr W682 (Or.inr (by omega))
      have N682 := Fr.snoc X682 N680 (by omega)
      refine own_sT 42 [] st682 ?_
      refine own_rl 45 #[.val (.ref s1), .val (.ref ob_641), .val (.int (2 : Int32)), .val (.int (own_lc y1))] [] X682 hx hby e5_42_1 rfl rfl ?_
      refine own_go 4 X682 hx (hb hby d5_45) (by decide) (by decide) ?_
      refine own_ru 6 [(.ref s1), (.int (2 : Int32))] X682 hx hby e5_4_2 rfl rfl ?_
      have f683 := (f645.wr W682 (by omega))
      have f684 := (Exa.wr W682 f646)
      have f685 := (Fld.other W682 f647 (Or.inl (own_ne (by omega))))
      have f686 := (Fld.other W682 f648 (Or.inl (own_ne (by omega))))
      have f687 := (f649.other W682 (own_ne (by omega)))
      refine own_cV X682 hx hZ hown (wd31 hw) (wd32 hw) (notFace_of_selects (args := #[]) (mvT hZ (wd34 hw))) (wd34 hw) (wd33 hw) (by decide) (wd35 hw) (wd8 hw) (rm6d0 l Z a0 hw [] G1 G2 s1 ta kt (3 : Int32) [(.int y0), (.int y1), (.int y2)] h682 n0 (by omega) f683 A f684 f685 f686 f687) e682 f684 [] [(.int (2 : Int32))] 9 1 (hb hby d5_6) rfl (by rw [hml]; rfl) rfl rfl (lenOf pd_20 rfl) rfl (by decide) fun v688 T688 Lc688 X688 hQ688 => ?_
      obtain ⟨rfl, N688q, e688⟩ := hQ688
      have N688 := Fr.app N682 N688q
      refine own_kN 12 X688 hx (hb hby d5_9) rfl (tlt (by decide : ((2 : Int32) < (3 : Int32)))).2.1 rfl ?_
      refine own_ru 14 [(.int (2 : Int32)), (.ref s1)] X688 hx hby e5_12_2 rfl rfl ?_
      refine own_cV X688 hx hZ hown (wd53 hw) (wd54 hw) (notFace_of_selects (args := #[]) (mvT hZ (wd56 hw))) (wd56 hw) (wd55 hw) (by decide) (wd57 hw) (wd8 hw) (rm11l l Z a0 hw [] G1 G2 s1 (2 : Int32) ta kt (3 : Int32) [(.int y0), (.int y1), (.int y2)] y2 h682 n0 (by omega) f683 A f684 f685 f686 f687 (by decide) (by decide) rfl) e688 f684 [(.int (2 : Int32))] [] 17 0 (hb hby d5_14) rfl (by rw [hml]; rfl) rfl rfl (lenOf pd_21 rfl) rfl (by decide) fun v689 T689 Lc689 X689 hQ689 => ?_
      obtain ⟨rfl, N689q, e689⟩ := hQ689
      have N689 := Fr.app N688 N689q
      refine own_rl 20 #[.val (.ref s1), .val (.ref ob_641), .val (.int (2 : Int32)), .val (.int (own_lc y2))] [(.int (own_lc y2)), (.int (own_lc y2))] X689 hx hby e5_17_3 rfl rfl ?_
      refine own_cS X689 hx hZ hown (wd75 hw) (wd76 hw) (by decide) (wd77 hw) (wd29 hw) (rm16 l Z a0 hw [] (own_lc y2) h682 n0 (by omega) (by rw [he2]; exact hx2)) e689  [(.int (own_lc y2))] [(.int (own_lc y2))] 23 1 (hb hby d5_20) rfl (by rw [hml]; rfl) rfl rfl (lenOf pd_22 rfl) rfl (by decide) fun v690 T690 Lc690 X690 hQ690 => ?_
      obtain ⟨rfl, N690q, e690⟩ := hQ690
      have N690 := Fr.app N689 N690q
      as_aux_lemma =>
        by_cases hc23bb : (own_lc y2) = (own_low (own_lc y2))
        · refine own_kY 42 X690 hx (hb hby d5_23) rfl (teq hc23bb).1 (by decide) (by decide) ?_
          refine own_rl 45 #[.val (.ref s1), .val (.ref ob_641), .val (.int (3 : Int32)), .val (.int (own_lc y2))] [] X690 hx hby e5_42_1 rfl rfl ?_
          refine own_go 4 X690 hx (hb hby d5_45) (by decide) (by decide) ?_
          refine own_ru 6 [(.ref s1), (.int (3 : Int32))] X690 hx hby e5_4_2 rfl rfl ?_
          refine own_cV X690 hx hZ hown (wd31 hw) (wd32 hw) (notFace_of_selects (args := #[]) (mvT hZ (wd34 hw))) (wd34 hw) (wd33 hw) (by decide) (wd35 hw) (wd8 hw) (rm6d0 l Z a0 hw [] G1 G2 s1 ta kt (3 : Int32) [(.int y0), (.int y1), (.int y2)] h682 n0 (by omega) f683 A f684 f685 f686 f687) e690 f684 [] [(.int (3 : Int32))] 9 1 (hb hby d5_6) rfl (by rw [hml]; rfl) rfl rfl (lenOf pd_20 rfl) rfl (by decide) fun v691 T691 Lc691 X691 hQ691 => ?_
          obtain ⟨rfl, N691q, e691⟩ := hQ691
          have N691 := Fr.app N690 N691q
          refine own_kY 48 X691 hx (hb hby d5_9) rfl (flt (by decide : ¬ ((3 : Int32) < (3 : Int32)))).2.1 (by decide) (by decide) ?_
          refine own_ru 49 [(.ref ob_641)] X691 hx hby e5_48_1 rfl rfl ?_
          refine own_st 56 [] (fun t k => XS.ifnonnullYes X691.here hx rfl (pc0 := 49) (pc' := 56) rfl (hb hby d5_49) rfl (by decide) (by decide) k) ?_
          refine own_nO X691 hx hZ hown (wd96 hw) (wd7 hw) (wd8 hw) e691 59 (hb hby d5_56) rfl (by decide) (by decide) fun T692 h692 b692 g692 X692 e692 E692 A692 D692 UN692 => ?_
          have ll692 : @LT.lt Nat _ b692 (Array.size h692) := A692.lt
          have KK692 : Keep h0 h692 [] := KK682.ext E692
          have z692 := E692.1
          have F693 : fl2 Z h692 b692 .null := D692 (Or.inr (wd21 hw)) (ty := (.array .byte)) (by decide)
          have F694 : fl0 Z h692 b692 (.int (0 : Int32)) := D692 (Or.inr (wd22 hw)) (ty := .byte) (by decide)
          refine own_ru 61 [(.ref ob_641), (.ref b692), (.ref b692)] X692 hx hby e5_59_2 rfl rfl ?_
          have f695 := (f683.ext E692)
          have f696 := (V682.ext E692)
          refine own_cN X692 hx hZ hown rfl (wd97 hw) (wd10 hw) (by decide) (wd11 hw) (wd8 hw) (rm2n3 l Z a0 hw [] G1 G2 b692 ob_641 kc_641 (nar .char (own_low (own_lc y0))) (nar .char (own_low (own_lc y1))) (own_lc y2) h692 n0 (by omega) f695 A A692 F693 F694 f696 (by omega) (own_chn _) (own_chn _) (own_chn _) (by first | assumption | decide | omega)) e692  [(.ref ob_641)] [(.ref b692)] 64 1 (hb hby d5_61) rfl (by rw [hml]; rfl) rfl rfl (lenOf pd_24 rfl) rfl (by decide) fun v697 T697 Lc697 X697 hQ697 => ?_
          obtain ⟨rfl, N697q, K697, G697_0⟩ := hQ697
          have N697 := Fr.app N691 N697q
          have z697 := K697.1
          have KK697 : Keep h0 T697.heap [] := KK692.trans K697 (allS (Or.inr (by omega)) all0)
          have hq698 : Q5n30 Z G1 G2 s1 ta kt x0 x1 x2 y0 y1 y2 h0 n0 (some (.ref b692)) T697.heap _ := ⟨b692, rfl, N697, KK697, Or.inr ⟨by rw [← (show nar .char (own_low (own_lc y0)) = own_low x0 by rw [he0]; exact own_nch (own_lowCh hx0)), ← (show nar .char (own_low (own_lc y1)) = own_low x1 by rw [he1]; exact own_nch (own_lowCh hx1)), ← (show (own_lc y2) = own_low x2 by rw [← he2]; exact hc23bb)]; exact G697_0, fun q => hc23 (by rw [he0]; exact q.1)⟩⟩
          exact own_retR X697 hx hlk (w := (.ref b692)) rfl hrt rfl (hb hby d5_64) rfl hq698 (by decide) (by decide)
        · refine own_kN 26 X690 hx (hb hby d5_23) rfl (feq hc23bb).1 rfl ?_
          refine own_ru 27 [(.ref ob_641)] X690 hx hby e5_26_1 rfl rfl ?_
          refine own_st 35 [] (fun t k => XS.ifnonnullYes X690.here hx rfl (pc0 := 27) (pc' := 35) rfl (hb hby d5_27) rfl (by decide) (by decide) k) ?_
          refine own_ru 38 [(.int (own_lc y2)), (.int (2 : Int32)), (.ref ob_641)] X690 hx hby e5_35_3 rfl rfl ?_
          refine own_cS X690 hx hZ hown (wd75 hw) (wd76 hw) (by decide) (wd77 hw) (wd29 hw) (rm16 l Z a0 hw [] (own_lc y2) h682 n0 (by omega) (by rw [he2]; exact hx2)) e690  [(.int (own_lc y2))] [(.int (2 : Int32)), (.ref ob_641)] 41 2 (hb hby d5_38) rfl (by rw [hml]; rfl) rfl rfl (lenOf pd_22 rfl) rfl (by decide) fun v699 T699 Lc699 X699 hQ699 => ?_
          obtain ⟨rfl, N699q, e699⟩ := hQ699
          have N699 := Fr.app N690 N699q
          obtain ⟨cl700, Ar700, q700, S700, N700z, Hs700, G700⟩ := id V682
          have hin700 : ¬ ((2 : Int32) < 0 ∨ cl700.slots.size ≤ ((2 : Int32)).toNatClampNeg) := inb_of S700 ⟨by decide, by decide⟩
          obtain ⟨T701, h701, X701, e701, W701, st701⟩ := stC X699 hx hZ e699 Ar700 (j := (2 : Int32)) hin700 (g := (mkF m 41 #[.val (.ref s1), .val (.ref ob_641), .val (.int (2 : Int32)), .val (.int (own_lc y2))] [(.int (own_low (own_lc y2))), (.int (2 : Int32)), (.ref ob_641)])) rfl rfl (hb hby d5_41)
          have V701 : Arv Z h701 ob_641 kc_641 .char (3 : Int32) [(.int (nar .char (own_low (own_lc y0)))), (.int (nar .char (own_low (own_lc y1)))), (.int (nar .char (own_low (own_lc y2))))] (.int (0 : Int32)) := Arv.set Ar700 q700 S700 N700z Hs700 G700 (fits_nar_char _) W701 2 rfl (Nat.le_of_ble_eq_true rfl)
          have z701 := W701.size
          have KK701 : Keep h0 h701 [] := KK682.wr W701 (Or.inr (by omega))
          have N701 := Fr.snoc X701 N699 (by omega)
          refine own_sT 42 [] st701 ?_
          refine own_rl 45 #[.val (.ref s1), .val (.ref ob_641), .val (.int (3 : Int32)), .val (.int (own_lc y2))] [] X701 hx hby e5_42_1 rfl rfl ?_
          refine own_go 4 X701 hx (hb hby d5_45) (by decide) (by decide) ?_
          refine own_ru 6 [(.ref s1), (.int (3 : Int32))] X701 hx hby e5_4_2 rfl rfl ?_
          have f702 := (f683.wr W701 (by omega))
          have f703 := (Exa.wr W701 f684)
          have f704 := (Fld.other W701 f685 (Or.inl (own_ne (by omega))))
          have f705 := (Fld.other W701 f686 (Or.inl (own_ne (by omega))))
          have f706 := (f687.other W701 (own_ne (by omega)))
          refine own_cV X701 hx hZ hown (wd31 hw) (wd32 hw) (notFace_of_selects (args := #[]) (mvT hZ (wd34 hw))) (wd34 hw) (wd33 hw) (by decide) (wd35 hw) (wd8 hw) (rm6d0 l Z a0 hw [] G1 G2 s1 ta kt (3 : Int32) [(.int y0), (.int y1), (.int y2)] h701 n0 (by omega) f702 A f703 f704 f705 f706) e701 f703 [] [(.int (3 : Int32))] 9 1 (hb hby d5_6) rfl (by rw [hml]; rfl) rfl rfl (lenOf pd_20 rfl) rfl (by decide) fun v707 T707 Lc707 X707 hQ707 => ?_
          obtain ⟨rfl, N707q, e707⟩ := hQ707
          have N707 := Fr.app N701 N707q
          refine own_kY 48 X707 hx (hb hby d5_9) rfl (flt (by decide : ¬ ((3 : Int32) < (3 : Int32)))).2.1 (by decide) (by decide) ?_
          refine own_ru 49 [(.ref ob_641)] X707 hx hby e5_48_1 rfl rfl ?_
          refine own_st 56 [] (fun t k => XS.ifnonnullYes X707.here hx rfl (pc0 := 49) (pc' := 56) rfl (hb hby d5_49) rfl (by decide) (by decide) k) ?_
          refine own_nO X707 hx hZ hown (wd96 hw) (wd7 hw) (wd8 hw) e707 59 (hb hby d5_56) rfl (by decide) (by decide) fun T708 h708 b708 g708 X708 e708 E708 A708 D708 UN708 => ?_
          have ll708 : @LT.lt Nat _ b708 (Array.size h708) := A708.lt
          have KK708 : Keep h0 h708 [] := KK701.ext E708
          have z708 := E708.1
          have F709 : fl2 Z h708 b708 .null := D708 (Or.inr (wd21 hw)) (ty := (.array .byte)) (by decide)
          have F710 : fl0 Z h708 b708 (.int (0 : Int32)) := D708 (Or.inr (wd22 hw)) (ty := .byte) (by decide)
          refine own_ru 61 [(.ref ob_641), (.ref b708), (.ref b708)] X708 hx hby e5_59_2 rfl rfl ?_
          have f711 := (f702.ext E708)
          have f712 := (V701.ext E708)
          refine own_cN X708 hx hZ hown rfl (wd97 hw) (wd10 hw) (by decide) (wd11 hw) (wd8 hw) (rm2n3 l Z a0 hw [] G1 G2 b708 ob_641 kc_641 (nar .char (own_low (own_lc y0))) (nar .char (own_low (own_lc y1))) (nar .char (own_low (own_lc y2))) h708 n0 (by omega) f711 A A708 F709 F710 f712 (by omega) (own_chn _) (own_chn _) (own_chn _) (by first | assumption | decide | omega)) e708  [(.ref ob_641)] [(.ref b708)] 64 1 (hb hby d5_61) rfl (by rw [hml]; rfl) rfl rfl (lenOf pd_24 rfl) rfl (by decide) fun v713 T713 Lc713 X713 hQ713 => ?_
          obtain ⟨rfl, N713q, K713, G713_0⟩ := hQ713
          have N713 := Fr.app N707 N713q
          have z713 := K713.1
          have KK713 : Keep h0 T713.heap [] := KK708.trans K713 (allS (Or.inr (by omega)) all0)
          have hq714 : Q5n30 Z G1 G2 s1 ta kt x0 x1 x2 y0 y1 y2 h0 n0 (some (.ref b708)) T713.heap _ := ⟨b708, rfl, N713, KK713, Or.inr ⟨by rw [← (show nar .char (own_low (own_lc y0)) = own_low x0 by rw [he0]; exact own_nch (own_lowCh hx0)), ← (show nar .char (own_low (own_lc y1)) = own_low x1 by rw [he1]; exact own_nch (own_lowCh hx1)), ← (show nar .char (own_low (own_lc y2)) = own_low x2 by rw [he2]; exact own_nch (own_lowCh hx2))]; exact G713_0, fun q => hc23 (by rw [he0]; exact q.1)⟩⟩
          exact own_retR X713 hx hlk (w := (.ref b708)) rfl hrt rfl (hb hby d5_64) rfl hq714 (by decide) (by decide)
def Q5n31 (Z : State) (G1 : Int32) (G2 : Value) (s1 : Addr) (ta : Addr) (kt : ClassId) (x0 : Int32) (x1 : Int32) (x2 : Int32) (y0 : Int32) (y1 : Int32) (y2 : Int32) (z0 : Int32) (z1 : Int32) (z2 : Int32) (h0 : Heap) (n0 : Nat) (v : Option Value) (h : Heap) (L : List Loc) : Prop := ∃ so : Addr, v = some (.ref so) ∧ Fr n0 L ∧ Keep h0 h [] ∧ own_Res3 Z h so s1 x0 x1 x2
set_option maxRecDepth 65536 in
set_option maxHeartbeats 40000000 in
theorem rm5n31 (l : Launch) (Z : State) (a0 : Array Value) (hw : OW a0 Z) (ws : List Jvm.Cond) (G1 : Int32) (G2 : Value) (s1 : Addr) (ta : Addr) (kt : ClassId) (x0 : Int32) (x1 : Int32) (x2 : Int32) (y0 : Int32) (y1 : Int32) (y2 : Int32) (z0 : Int32) (z1 : Int32) (z2 : Int32) (h0 : Heap) (n0 : Nat) (Z0 : n0 ≤ h0.size) (OLD : Old Z n0 h0) (A : Amb Z G1 G2) (P0 : ex1 Z h0 s1) (P1 : fl2 Z h0 s1 (.ref ta)) (P2 : fl0 Z h0 s1 (.int (1 : Int32))) (P3 : Arv Z h0 ta kt .byte (6 : Int32) [(.int y0), (.int z0), (.int y1), (.int z1), (.int y2), (.int z2)] (.int (0 : Int32))) (he0 : (own_u y0 z0) = x0) (he1 : (own_u y1 z1) = x1) (he2 : (own_u y2 z2) = x2) (hx0 : own_ch x0) (hx1 : own_ch x1) (hx2 : own_ch x2) :
    own_Met l my5 prog_14_method_2_code 4 (some (.object "java/lang/String")) ws (own_rm 6 4 16 88) #[(.ref s1)] Z h0 (Q5n31 Z G1 G2 s1 ta kt x0 x1 x2 y0 y1 y2 z0 z1 z2 h0 n0) 4 16 := by
  refine own_body (plainFor_of_name pn_1) (fun m => by first | (simp [entryFrame, mkF, argsToLocals, Value.category]; done) | rfl) (Ls := #[.val (.ref s1), .unset, .unset, .unset]) fun p e s m below meth c s₁ X0 hx hby hml hZ e0 hown hnm hlk hrt => ?_
  have N0 := Fr.nil n0
  have lt_P0 : @LT.lt Nat _ s1 (Array.size h0) := P0.lt
  have lt_P3 : @LT.lt Nat _ ta (Array.size h0) := P3.lt
  refine own_rl 6 #[.val (.ref s1), .val .null, .val (.int (0 : Int32)), .unset] [(.ref s1), (.int (0 : Int32))] X0 hx hby e5_0_6 rfl rfl ?_
  refine own_cV X0 hx hZ hown (wd31 hw) (wd32 hw) (notFace_of_selects (args := #[]) (mvT hZ (wd34 hw))) (wd34 hw) (wd33 hw) (by decide) (wd35 hw) (wd8 hw) (rm6d1 l Z a0 hw [] G1 G2 s1 ta kt (6 : Int32) [(.int y0), (.int z0), (.int y1), (.int z1), (.int y2), (.int z2)] h0 n0 (by omega) OLD A P0 P1 P2 P3) e0 P0 [] [(.int (0 : Int32))] 9 1 (hb hby d5_6) rfl (by rw [hml]; rfl) rfl rfl (lenOf pd_20 rfl) rfl (by decide) fun v715 T715 Lc715 X715 hQ715 => ?_
  obtain ⟨rfl, N715q, e715⟩ := hQ715
  have N715 := Fr.app N0 N715q
  refine own_kN 12 X715 hx (hb hby d5_9) rfl (tlt (by decide : ((0 : Int32) < (3 : Int32)))).2.1 rfl ?_
  refine own_ru 14 [(.int (0 : Int32)), (.ref s1)] X715 hx hby e5_12_2 rfl rfl ?_
  refine own_cV X715 hx hZ hown (wd53 hw) (wd54 hw) (notFace_of_selects (args := #[]) (mvT hZ (wd56 hw))) (wd56 hw) (wd55 hw) (by decide) (wd57 hw) (wd8 hw) (rm11u l Z a0 hw [] G1 G2 s1 (0 : Int32) ta kt (6 : Int32) [(.int y0), (.int z0), (.int y1), (.int z1), (.int y2), (.int z2)] y0 z0 h0 n0 (by omega) OLD A P0 P1 P2 P3 (by decide) (by decide) ⟨by decide, by decide⟩ ⟨by decide, by decide⟩ rfl rfl) e715 P0 [(.int (0 : Int32))] [] 17 0 (hb hby d5_14) rfl (by rw [hml]; rfl) rfl rfl (lenOf pd_21 rfl) rfl (by decide) fun v716 T716 Lc716 X716 hQ716 => ?_
  obtain ⟨rfl, N716q, e716⟩ := hQ716
  have N716 := Fr.app N715 N716q
  refine own_rl 20 #[.val (.ref s1), .val .null, .val (.int (0 : Int32)), .val (.int (own_u y0 z0))] [(.int (own_u y0 z0)), (.int (own_u y0 z0))] X716 hx hby e5_17_3 rfl rfl ?_
  refine own_cS X716 hx hZ hown (wd75 hw) (wd76 hw) (by decide) (wd77 hw) (wd29 hw) (rm16 l Z a0 hw [] (own_u y0 z0) h0 n0 (by omega) (by rw [he0]; exact hx0)) e716  [(.int (own_u y0 z0))] [(.int (own_u y0 z0))] 23 1 (hb hby d5_20) rfl (by rw [hml]; rfl) rfl rfl (lenOf pd_22 rfl) rfl (by decide) fun v717 T717 Lc717 X717 hQ717 => ?_
  obtain ⟨rfl, N717q, e717⟩ := hQ717
  have N717 := Fr.app N716 N717q
  by_cases hc23 : (own_u y0 z0) = (own_low (own_u y0 z0))
  · refine own_kY 42 X717 hx (hb hby d5_23) rfl (teq hc23).1 (by decide) (by decide) ?_
    refine own_rl 45 #[.val (.ref s1), .val .null, .val (.int (1 : Int32)), .val (.int (own_u y0 z0))] [] X717 hx hby e5_42_1 rfl rfl ?_
    refine own_go 4 X717 hx (hb hby d5_45) (by decide) (by decide) ?_
    refine own_ru 6 [(.ref s1), (.int (1 : Int32))] X717 hx hby e5_4_2 rfl rfl ?_
    refine own_cV X717 hx hZ hown (wd31 hw) (wd32 hw) (notFace_of_selects (args := #[]) (mvT hZ (wd34 hw))) (wd34 hw) (wd33 hw) (by decide) (wd35 hw) (wd8 hw) (rm6d1 l Z a0 hw [] G1 G2 s1 ta kt (6 : Int32) [(.int y0), (.int z0), (.int y1), (.int z1), (.int y2), (.int z2)] h0 n0 (by omega) OLD A P0 P1 P2 P3) e717 P0 [] [(.int (1 : Int32))] 9 1 (hb hby d5_6) rfl (by rw [hml]; rfl) rfl rfl (lenOf pd_20 rfl) rfl (by decide) fun v718 T718 Lc718 X718 hQ718 => ?_
    obtain ⟨rfl, N718q, e718⟩ := hQ718
    have N718 := Fr.app N717 N718q
    refine own_kN 12 X718 hx (hb hby d5_9) rfl (tlt (by decide : ((1 : Int32) < (3 : Int32)))).2.1 rfl ?_
    refine own_ru 14 [(.int (1 : Int32)), (.ref s1)] X718 hx hby e5_12_2 rfl rfl ?_
    refine own_cV X718 hx hZ hown (wd53 hw) (wd54 hw) (notFace_of_selects (args := #[]) (mvT hZ (wd56 hw))) (wd56 hw) (wd55 hw) (by decide) (wd57 hw) (wd8 hw) (rm11u l Z a0 hw [] G1 G2 s1 (1 : Int32) ta kt (6 : Int32) [(.int y0), (.int z0), (.int y1), (.int z1), (.int y2), (.int z2)] y1 z1 h0 n0 (by omega) OLD A P0 P1 P2 P3 (by decide) (by decide) ⟨by decide, by decide⟩ ⟨by decide, by decide⟩ rfl rfl) e718 P0 [(.int (1 : Int32))] [] 17 0 (hb hby d5_14) rfl (by rw [hml]; rfl) rfl rfl (lenOf pd_21 rfl) rfl (by decide) fun v719 T719 Lc719 X719 hQ719 => ?_
    obtain ⟨rfl, N719q, e719⟩ := hQ719
    have N719 := Fr.app N718 N719q
    refine own_rl 20 #[.val (.ref s1), .val .null, .val (.int (1 : Int32)), .val (.int (own_u y1 z1))] [(.int (own_u y1 z1)), (.int (own_u y1 z1))] X719 hx hby e5_17_3 rfl rfl ?_
    refine own_cS X719 hx hZ hown (wd75 hw) (wd76 hw) (by decide) (wd77 hw) (wd29 hw) (rm16 l Z a0 hw [] (own_u y1 z1) h0 n0 (by omega) (by rw [he1]; exact hx1)) e719  [(.int (own_u y1 z1))] [(.int (own_u y1 z1))] 23 1 (hb hby d5_20) rfl (by rw [hml]; rfl) rfl rfl (lenOf pd_22 rfl) rfl (by decide) fun v720 T720 Lc720 X720 hQ720 => ?_
    obtain ⟨rfl, N720q, e720⟩ := hQ720
    have N720 := Fr.app N719 N720q
    by_cases hc23b : (own_u y1 z1) = (own_low (own_u y1 z1))
    · refine own_kY 42 X720 hx (hb hby d5_23) rfl (teq hc23b).1 (by decide) (by decide) ?_
      refine own_rl 45 #[.val (.ref s1), .val .null, .val (.int (2 : Int32)), .val (.int (own_u y1 z1))] [] X720 hx hby e5_42_1 rfl rfl ?_
      refine own_go 4 X720 hx (hb hby d5_45) (by decide) (by decide) ?_
      refine own_ru 6 [(.ref s1), (.int (2 : Int32))] X720 hx hby e5_4_2 rfl rfl ?_
      refine own_cV X720 hx hZ hown (wd31 hw) (wd32 hw) (notFace_of_selects (args := #[]) (mvT hZ (wd34 hw))) (wd34 hw) (wd33 hw) (by decide) (wd35 hw) (wd8 hw) (rm6d1 l Z a0 hw [] G1 G2 s1 ta kt (6 : Int32) [(.int y0), (.int z0), (.int y1), (.int z1), (.int y2), (.int z2)] h0 n0 (by omega) OLD A P0 P1 P2 P3) e720 P0 [] [(.int (2 : Int32))] 9 1 (hb hby d5_6) rfl (by rw [hml]; rfl) rfl rfl (lenOf pd_20 rfl) rfl (by decide) fun v721 T721 Lc721 X721 hQ721 => ?_
      obtain ⟨rfl, N721q, e721⟩ := hQ721
      have N721 := Fr.app N720 N721q
      refine own_kN 12 X721 hx (hb hby d5_9) rfl (tlt (by decide : ((2 : Int32) < (3 : Int32)))).2.1 rfl ?_
      refine own_ru 14 [(.int (2 : Int32)), (.ref s1)] X721 hx hby e5_12_2 rfl rfl ?_
      refine own_cV X721 hx hZ hown (wd53 hw) (wd54 hw) (notFace_of_selects (args := #[]) (mvT hZ (wd56 hw))) (wd56 hw) (wd55 hw) (by decide) (wd57 hw) (wd8 hw) (rm11u l Z a0 hw [] G1 G2 s1 (2 : Int32) ta kt (6 : Int32) [(.int y0), (.int z0), (.int y1), (.int z1), (.int y2), (.int z2)] y2 z2 h0 n0 (by omega) OLD A P0 P1 P2 P3 (by decide) (by decide) ⟨by decide, by decide⟩ ⟨by decide, by decide⟩ rfl rfl) e721 P0 [(.int (2 : Int32))] [] 17 0 (hb hby d5_14) rfl (by rw [hml]; rfl) rfl rfl (lenOf pd_21 rfl) rfl (by decide) fun v722 T722 Lc722 X722 hQ722 => ?_
      obtain ⟨rfl, N722q, e722⟩ := hQ722
      have N722 := Fr.app N721 N722q
      refine own_rl 20 #[.val (.ref s1), .val .null, .val (.int (2 : Int32)), .val (.int (own_u y2 z2))] [(.int (own_u y2 z2)), (.int (own_u y2 z2))] X722 hx hby e5_17_3 rfl rfl ?_
      refine own_cS X722 hx hZ hown (wd75 hw) (wd76 hw) (by decide) (wd77 hw) (wd29 hw) (rm16 l Z a0 hw [] (own_u y2 z2) h0 n0 (by omega) (by rw [he2]; exact hx2)) e722  [(.int (own_u y2 z2))] [(.int (own_u y2 z2))] 23 1 (hb hby d5_20) rfl (by rw [hml]; rfl) rfl rfl (lenOf pd_22 rfl) rfl (by decide) fun v723 T723 Lc723 X723 hQ723 => ?_
      obtain ⟨rfl, N723q, e723⟩ := hQ723
      have N723 := Fr.app N722 N723q
      by_cases hc23bb : (own_u y2 z2) = (own_low (own_u y2 z2))
      · refine own_kY 42 X723 hx (hb hby d5_23) rfl (teq hc23bb).1 (by decide) (by decide) ?_
        refine own_rl 45 #[.val (.ref s1), .val .null, .val (.int (3 : Int32)), .val (.int (own_u y2 z2))] [] X723 hx hby e5_42_1 rfl rfl ?_
        refine own_go 4 X723 hx (hb hby d5_45) (by decide) (by decide) ?_
        refine own_ru 6 [(.ref s1), (.int (3 : Int32))] X723 hx hby e5_4_2 rfl rfl ?_
        refine own_cV X723 hx hZ hown (wd31 hw) (wd32 hw) (notFace_of_selects (args := #[]) (mvT hZ (wd34 hw))) (wd34 hw) (wd33 hw) (by decide) (wd35 hw) (wd8 hw) (rm6d1 l Z a0 hw [] G1 G2 s1 ta kt (6 : Int32) [(.int y0), (.int z0), (.int y1), (.int z1), (.int y2), (.int z2)] h0 n0 (by omega) OLD A P0 P1 P2 P3) e723 P0 [] [(.int (3 : Int32))] 9 1 (hb hby d5_6) rfl (by rw [hml]; rfl) rfl rfl (lenOf pd_20 rfl) rfl (by decide) fun v724 T724 Lc724 X724 hQ724 => ?_
        obtain ⟨rfl, N724q, e724⟩ := hQ724
        have N724 := Fr.app N723 N724q
        refine own_kY 48 X724 hx (hb hby d5_9) rfl (flt (by decide : ¬ ((3 : Int32) < (3 : Int32)))).2.1 (by decide) (by decide) ?_
        refine own_ru 49 [.null] X724 hx hby e5_48_1 rfl rfl ?_
        refine own_st 52 [] (fun t k => XS.ifnonnullNo X724.here hx rfl (hb hby d5_49) rfl k) ?_
        refine own_ru 53 [(.ref s1)] X724 hx hby e5_52_1 rfl rfl ?_
        refine own_go 64 X724 hx (hb hby d5_53) (by decide) (by decide) ?_
        have hq725 : Q5n31 Z G1 G2 s1 ta kt x0 x1 x2 y0 y1 y2 z0 z1 z2 h0 n0 (some (.ref s1)) h0 _ := ⟨s1, rfl, N724, (Keep.refl h0 []), Or.inl ⟨rfl, by rw [← he0]; exact hc23, by rw [← he1]; exact hc23b, by rw [← he2]; exact hc23bb⟩⟩
        exact own_retR X724 hx hlk (w := (.ref s1)) rfl hrt rfl (hb hby d5_64) e724 hq725 (by decide) (by decide)
      · refine own_kN 26 X723 hx (hb hby d5_23) rfl (feq hc23bb).1 rfl ?_
        refine own_ru 27 [.null] X723 hx hby e5_26_1 rfl rfl ?_
        refine own_st 30 [] (fun t k => XS.ifnonnullNo X723.here hx rfl (hb hby d5_27) rfl k) ?_
        refine own_ru 31 [(.ref s1)] X723 hx hby e5_30_1 rfl rfl ?_
        refine own_cV X723 hx hZ hown (wd85 hw) (wd86 hw) (notFace_of_selects (args := #[]) (mvT hZ (wd88 hw))) (wd88 hw) (wd87 hw) (by decide) (wd89 hw) (wd8 hw) (rm19n31 l Z a0 hw [] G1 G2 s1 ta kt y0 y1 y2 z0 z1 z2 h0 n0 (by omega) OLD A P0 P1 P2 P3) e723 P0 [] [] 34 0 (hb hby d5_31) rfl (by rw [hml]; rfl) rfl rfl (lenOf pd_23 rfl) rfl (by decide) fun v726 T726 Lc726 X726 hQ726 => ?_
        obtain ⟨ob_726, kc_726, rfl, N726q, K726, G726_0, U726_0⟩ := hQ726
        have N726 := Fr.app N723 N726q
        have z726 := K726.1
        have KK726 : Keep h0 T726.heap [] := (Keep.refl h0 []).trans K726 all0
        have lt726_0 : @LT.lt Nat _ ob_726 (Array.size T726.heap) := G726_0.lt
        refine own_rl 38 #[.val (.ref s1), .val (.ref ob_726), .val (.int (2 : Int32)), .val (.int (own_u y2 z2))] [(.int (own_u y2 z2)), (.int (2 : Int32)), (.ref ob_726)] X726 hx hby e5_34_4 rfl rfl ?_
        refine own_cS X726 hx hZ hown (wd75 hw) (wd76 hw) (by decide) (wd77 hw) (wd29 hw) (rm16 l Z a0 hw [] (own_u y2 z2) T726.heap n0 (by omega) (by rw [he2]; exact hx2)) rfl  [(.int (own_u y2 z2))] [(.int (2 : Int32)), (.ref ob_726)] 41 2 (hb hby d5_38) rfl (by rw [hml]; rfl) rfl rfl (lenOf pd_22 rfl) rfl (by decide) fun v727 T727 Lc727 X727 hQ727 => ?_
        obtain ⟨rfl, N727q, e727⟩ := hQ727
        have N727 := Fr.app N726 N727q
        obtain ⟨cl728, Ar728, q728, S728, N728z, Hs728, G728⟩ := id G726_0
        have hin728 : ¬ ((2 : Int32) < 0 ∨ cl728.slots.size ≤ ((2 : Int32)).toNatClampNeg) := inb_of S728 ⟨by decide, by decide⟩
        obtain ⟨T729, h729, X729, e729, W729, st729⟩ := stC X727 hx hZ e727 Ar728 (j := (2 : Int32)) hin728 (g := (mkF m 41 #[.val (.ref s1), .val (.ref ob_726), .val (.int (2 : Int32)), .val (.int (own_u y2 z2))] [(.int (own_low (own_u y2 z2))), (.int (2 : Int32)), (.ref ob_726)])) rfl rfl (hb hby d5_41)
        have V729 : Arv Z h729 ob_726 kc_726 .char (3 : Int32) [(.int (nar .char (own_u y0 z0))), (.int (nar .char (own_u y1 z1))), (.int (nar .char (own_low (own_u y2 z2))))] (.int (0 : Int32)) := Arv.set Ar728 q728 S728 N728z Hs728 G728 (fits_nar_char _) W729 2 rfl (Nat.le_of_ble_eq_true rfl)
        have z729 := W729.size
        have KK729 : Keep h0 h729 [] := KK726.wr W729 (Or.inr (by omega))
        have N729 := Fr.snoc X729 N727 (by omega)
        refine own_sT 42 [] st729 ?_
        refine own_rl 45 #[.val (.ref s1), .val (.ref ob_726), .val (.int (3 : Int32)), .val (.int (own_u y2 z2))] [] X729 hx hby e5_42_1 rfl rfl ?_
        refine own_go 4 X729 hx (hb hby d5_45) (by decide) (by decide) ?_
        refine own_ru 6 [(.ref s1), (.int (3 : Int32))] X729 hx hby e5_4_2 rfl rfl ?_
        have f730 := ((OLD.keep K726 all0).wr W729 (by omega))
        have f731 := (Exa.wr W729 (Exa.keep P0 K726))
        have f732 := (Fld.other W729 (P1.keep K726 nin0) (Or.inl (own_ne (by omega))))
        have f733 := (Fld.other W729 (P2.keep K726 nin0) (Or.inl (own_ne (by omega))))
        have f734 := ((P3.keep K726 nin0).other W729 (own_ne (by omega)))
        refine own_cV X729 hx hZ hown (wd31 hw) (wd32 hw) (notFace_of_selects (args := #[]) (mvT hZ (wd34 hw))) (wd34 hw) (wd33 hw) (by decide) (wd35 hw) (wd8 hw) (rm6d1 l Z a0 hw [] G1 G2 s1 ta kt (6 : Int32) [(.int y0), (.int z0), (.int y1), (.int z1), (.int y2), (.int z2)] h729 n0 (by omega) f730 A f731 f732 f733 f734) e729 f731 [] [(.int (3 : Int32))] 9 1 (hb hby d5_6) rfl (by rw [hml]; rfl) rfl rfl (lenOf pd_20 rfl) rfl (by decide) fun v735 T735 Lc735 X735 hQ735 => ?_
        obtain ⟨rfl, N735q, e735⟩ := hQ735
        have N735 := Fr.app N729 N735q
        refine own_kY 48 X735 hx (hb hby d5_9) rfl (flt (by decide : ¬ ((3 : Int32) < (3 : Int32)))).2.1 (by decide) (by decide) ?_
        as_aux_lemma =>
          refine own_ru 49 [(.ref ob_726)] X735 hx hby e5_48_1 rfl rfl ?_
          refine own_st 56 [] (fun t k => XS.ifnonnullYes X735.here hx rfl (pc0 := 49) (pc' := 56) rfl (hb hby d5_49) rfl (by decide) (by decide) k) ?_
          refine own_nO X735 hx hZ hown (wd96 hw) (wd7 hw) (wd8 hw) e735 59 (hb hby d5_56) rfl (by decide) (by decide) fun T736 h736 b736 g736 X736 e736 E736 A736 D736 UN736 => ?_
          have ll736 : @LT.lt Nat _ b736 (Array.size h736) := A736.lt
          have KK736 : Keep h0 h736 [] := KK729.ext E736
          have z736 := E736.1
          have F737 : fl2 Z h736 b736 .null := D736 (Or.inr (wd21 hw)) (ty := (.array .byte)) (by decide)
          have F738 : fl0 Z h736 b736 (.int (0 : Int32)) := D736 (Or.inr (wd22 hw)) (ty := .byte) (by decide)
          refine own_ru 61 [(.ref ob_726), (.ref b736), (.ref b736)] X736 hx hby e5_59_2 rfl rfl ?_
          have f739 := (f730.ext E736)
          have f740 := (V729.ext E736)
          refine own_cN X736 hx hZ hown rfl (wd97 hw) (wd10 hw) (by decide) (wd11 hw) (wd8 hw) (rm2n3 l Z a0 hw [] G1 G2 b736 ob_726 kc_726 (nar .char (own_u y0 z0)) (nar .char (own_u y1 z1)) (nar .char (own_low (own_u y2 z2))) h736 n0 (by omega) f739 A A736 F737 F738 f740 (by omega) (own_chn _) (own_chn _) (own_chn _) (by first | assumption | decide | omega)) e736  [(.ref ob_726)] [(.ref b736)] 64 1 (hb hby d5_61) rfl (by rw [hml]; rfl) rfl rfl (lenOf pd_24 rfl) rfl (by decide) fun v741 T741 Lc741 X741 hQ741 => ?_
          obtain ⟨rfl, N741q, K741, G741_0⟩ := hQ741
          have N741 := Fr.app N735 N741q
          have z741 := K741.1
          have KK741 : Keep h0 T741.heap [] := KK736.trans K741 (allS (Or.inr (by omega)) all0)
          have hq742 : Q5n31 Z G1 G2 s1 ta kt x0 x1 x2 y0 y1 y2 z0 z1 z2 h0 n0 (some (.ref b736)) T741.heap _ := ⟨b736, rfl, N741, KK741, Or.inr ⟨by rw [← (show nar .char (own_u y0 z0) = own_low x0 by rw [show nar .char (own_u y0 z0) = (own_u y0 z0) from own_nn _, ← he0]; exact hc23), ← (show nar .char (own_u y1 z1) = own_low x1 by rw [show nar .char (own_u y1 z1) = (own_u y1 z1) from own_nn _, ← he1]; exact hc23b), ← (show nar .char (own_low (own_u y2 z2)) = own_low x2 by rw [he2]; exact own_nch (own_lowCh hx2))]; exact G741_0, fun q => hc23bb (by rw [he2]; exact q.2.2)⟩⟩
          exact own_retR X741 hx hlk (w := (.ref b736)) rfl hrt rfl (hb hby d5_64) rfl hq742 (by decide) (by decide)
    · refine own_kN 26 X720 hx (hb hby d5_23) rfl (feq hc23b).1 rfl ?_
      refine own_ru 27 [.null] X720 hx hby e5_26_1 rfl rfl ?_
      refine own_st 30 [] (fun t k => XS.ifnonnullNo X720.here hx rfl (hb hby d5_27) rfl k) ?_
      refine own_ru 31 [(.ref s1)] X720 hx hby e5_30_1 rfl rfl ?_
      refine own_cV X720 hx hZ hown (wd85 hw) (wd86 hw) (notFace_of_selects (args := #[]) (mvT hZ (wd88 hw))) (wd88 hw) (wd87 hw) (by decide) (wd89 hw) (wd8 hw) (rm19n31 l Z a0 hw [] G1 G2 s1 ta kt y0 y1 y2 z0 z1 z2 h0 n0 (by omega) OLD A P0 P1 P2 P3) e720 P0 [] [] 34 0 (hb hby d5_31) rfl (by rw [hml]; rfl) rfl rfl (lenOf pd_23 rfl) rfl (by decide) fun v743 T743 Lc743 X743 hQ743 => ?_
      obtain ⟨ob_743, kc_743, rfl, N743q, K743, G743_0, U743_0⟩ := hQ743
      have N743 := Fr.app N720 N743q
      have z743 := K743.1
      have KK743 : Keep h0 T743.heap [] := (Keep.refl h0 []).trans K743 all0
      have lt743_0 : @LT.lt Nat _ ob_743 (Array.size T743.heap) := G743_0.lt
      refine own_rl 38 #[.val (.ref s1), .val (.ref ob_743), .val (.int (1 : Int32)), .val (.int (own_u y1 z1))] [(.int (own_u y1 z1)), (.int (1 : Int32)), (.ref ob_743)] X743 hx hby e5_34_4 rfl rfl ?_
      refine own_cS X743 hx hZ hown (wd75 hw) (wd76 hw) (by decide) (wd77 hw) (wd29 hw) (rm16 l Z a0 hw [] (own_u y1 z1) T743.heap n0 (by omega) (by rw [he1]; exact hx1)) rfl  [(.int (own_u y1 z1))] [(.int (1 : Int32)), (.ref ob_743)] 41 2 (hb hby d5_38) rfl (by rw [hml]; rfl) rfl rfl (lenOf pd_22 rfl) rfl (by decide) fun v744 T744 Lc744 X744 hQ744 => ?_
      obtain ⟨rfl, N744q, e744⟩ := hQ744
      have N744 := Fr.app N743 N744q
      obtain ⟨cl745, Ar745, q745, S745, N745z, Hs745, G745⟩ := id G743_0
      have hin745 : ¬ ((1 : Int32) < 0 ∨ cl745.slots.size ≤ ((1 : Int32)).toNatClampNeg) := inb_of S745 ⟨by decide, by decide⟩
      obtain ⟨T746, h746, X746, e746, W746, st746⟩ := stC X744 hx hZ e744 Ar745 (j := (1 : Int32)) hin745 (g := (mkF m 41 #[.val (.ref s1), .val (.ref ob_743), .val (.int (1 : Int32)), .val (.int (own_u y1 z1))] [(.int (own_low (own_u y1 z1))), (.int (1 : Int32)), (.ref ob_743)])) rfl rfl (hb hby d5_41)
      have V746 : Arv Z h746 ob_743 kc_743 .char (3 : Int32) [(.int (nar .char (own_u y0 z0))), (.int (nar .char (own_low (own_u y1 z1)))), (.int (nar .char (own_u y2 z2)))] (.int (0 : Int32)) := Arv.set Ar745 q745 S745 N745z Hs745 G745 (fits_nar_char _) W746 1 rfl (Nat.le_of_ble_eq_true rfl)
      have z746 := W746.size
      have KK746 : Keep h0 h746 [] := KK743.wr W746 (Or.inr (by omega))
      have N746 := Fr.snoc X746 N744 (by omega)
      refine own_sT 42 [] st746 ?_
      refine own_rl 45 #[.val (.ref s1), .val (.ref ob_743), .val (.int (2 : Int32)), .val (.int (own_u y1 z1))] [] X746 hx hby e5_42_1 rfl rfl ?_
      refine own_go 4 X746 hx (hb hby d5_45) (by decide) (by decide) ?_
      refine own_ru 6 [(.ref s1), (.int (2 : Int32))] X746 hx hby e5_4_2 rfl rfl ?_
      have f747 := ((OLD.keep K743 all0).wr W746 (by omega))
      have f748 := (Exa.wr W746 (Exa.keep P0 K743))
      have f749 := (Fld.other W746 (P1.keep K743 nin0) (Or.inl (own_ne (by omega))))
      have f750 := (Fld.other W746 (P2.keep K743 nin0) (Or.inl (own_ne (by omega))))
      have f751 := ((P3.keep K743 nin0).other W746 (own_ne (by omega)))
      refine own_cV X746 hx hZ hown (wd31 hw) (wd32 hw) (notFace_of_selects (args := #[]) (mvT hZ (wd34 hw))) (wd34 hw) (wd33 hw) (by decide) (wd35 hw) (wd8 hw) (rm6d1 l Z a0 hw [] G1 G2 s1 ta kt (6 : Int32) [(.int y0), (.int z0), (.int y1), (.int z1), (.int y2), (.int z2)] h746 n0 (by omega) f747 A f748 f749 f750 f751) e746 f748 [] [(.int (2 : Int32))] 9 1 (hb hby d5_6) rfl (by rw [hml]; rfl) rfl rfl (lenOf pd_20 rfl) rfl (by decide) fun v752 T752 Lc752 X752 hQ752 => ?_
      obtain ⟨rfl, N752q, e752⟩ := hQ752
      have N752 := Fr.app N746 N752q
      refine own_kN 12 X752 hx (hb hby d5_9) rfl (tlt (by decide : ((2 : Int32) < (3 : Int32)))).2.1 rfl ?_
      refine own_ru 14 [(.int (2 : Int32)), (.ref s1)] X752 hx hby e5_12_2 rfl rfl ?_
      refine own_cV X752 hx hZ hown (wd53 hw) (wd54 hw) (notFace_of_selects (args := #[]) (mvT hZ (wd56 hw))) (wd56 hw) (wd55 hw) (by decide) (wd57 hw) (wd8 hw) (rm11u l Z a0 hw [] G1 G2 s1 (2 : Int32) ta kt (6 : Int32) [(.int y0), (.int z0), (.int y1), (.int z1), (.int y2), (.int z2)] y2 z2 h746 n0 (by omega) f747 A f748 f749 f750 f751 (by decide) (by decide) ⟨by decide, by decide⟩ ⟨by decide, by decide⟩ rfl rfl) e752 f748 [(.int (2 : Int32))] [] 17 0 (hb hby d5_14) rfl (by rw [hml]; rfl) rfl rfl (lenOf pd_21 rfl) rfl (by decide) fun v753 T753 Lc753 X753 hQ753 => ?_
      obtain ⟨rfl, N753q, e753⟩ := hQ753
      have N753 := Fr.app N752 N753q
      refine own_rl 20 #[.val (.ref s1), .val (.ref ob_743), .val (.int (2 : Int32)), .val (.int (own_u y2 z2))] [(.int (own_u y2 z2)), (.int (own_u y2 z2))] X753 hx hby e5_17_3 rfl rfl ?_
      refine own_cS X753 hx hZ hown (wd75 hw) (wd76 hw) (by decide) (wd77 hw) (wd29 hw) (rm16 l Z a0 hw [] (own_u y2 z2) h746 n0 (by omega) (by rw [he2]; exact hx2)) e753  [(.int (own_u y2 z2))] [(.int (own_u y2 z2))] 23 1 (hb hby d5_20) rfl (by rw [hml]; rfl) rfl rfl (lenOf pd_22 rfl) rfl (by decide) fun v754 T754 Lc754 X754 hQ754 => ?_
      obtain ⟨rfl, N754q, e754⟩ := hQ754
      have N754 := Fr.app N753 N754q
      by_cases hc23bb : (own_u y2 z2) = (own_low (own_u y2 z2))
      · refine own_kY 42 X754 hx (hb hby d5_23) rfl (teq hc23bb).1 (by decide) (by decide) ?_
        refine own_rl 45 #[.val (.ref s1), .val (.ref ob_743), .val (.int (3 : Int32)), .val (.int (own_u y2 z2))] [] X754 hx hby e5_42_1 rfl rfl ?_
        refine own_go 4 X754 hx (hb hby d5_45) (by decide) (by decide) ?_
        refine own_ru 6 [(.ref s1), (.int (3 : Int32))] X754 hx hby e5_4_2 rfl rfl ?_
        refine own_cV X754 hx hZ hown (wd31 hw) (wd32 hw) (notFace_of_selects (args := #[]) (mvT hZ (wd34 hw))) (wd34 hw) (wd33 hw) (by decide) (wd35 hw) (wd8 hw) (rm6d1 l Z a0 hw [] G1 G2 s1 ta kt (6 : Int32) [(.int y0), (.int z0), (.int y1), (.int z1), (.int y2), (.int z2)] h746 n0 (by omega) f747 A f748 f749 f750 f751) e754 f748 [] [(.int (3 : Int32))] 9 1 (hb hby d5_6) rfl (by rw [hml]; rfl) rfl rfl (lenOf pd_20 rfl) rfl (by decide) fun v755 T755 Lc755 X755 hQ755 => ?_
        obtain ⟨rfl, N755q, e755⟩ := hQ755
        have N755 := Fr.app N754 N755q
        refine own_kY 48 X755 hx (hb hby d5_9) rfl (flt (by decide : ¬ ((3 : Int32) < (3 : Int32)))).2.1 (by decide) (by decide) ?_
        as_aux_lemma =>
          refine own_ru 49 [(.ref ob_743)] X755 hx hby e5_48_1 rfl rfl ?_
          refine own_st 56 [] (fun t k => XS.ifnonnullYes X755.here hx rfl (pc0 := 49) (pc' := 56) rfl (hb hby d5_49) rfl (by decide) (by decide) k) ?_
          refine own_nO X755 hx hZ hown (wd96 hw) (wd7 hw) (wd8 hw) e755 59 (hb hby d5_56) rfl (by decide) (by decide) fun T756 h756 b756 g756 X756 e756 E756 A756 D756 UN756 => ?_
          have ll756 : @LT.lt Nat _ b756 (Array.size h756) := A756.lt
          have KK756 : Keep h0 h756 [] := KK746.ext E756
          have z756 := E756.1
          have F757 : fl2 Z h756 b756 .null := D756 (Or.inr (wd21 hw)) (ty := (.array .byte)) (by decide)
          have F758 : fl0 Z h756 b756 (.int (0 : Int32)) := D756 (Or.inr (wd22 hw)) (ty := .byte) (by decide)
          refine own_ru 61 [(.ref ob_743), (.ref b756), (.ref b756)] X756 hx hby e5_59_2 rfl rfl ?_
          have f759 := (f747.ext E756)
          have f760 := (V746.ext E756)
          refine own_cN X756 hx hZ hown rfl (wd97 hw) (wd10 hw) (by decide) (wd11 hw) (wd8 hw) (rm2n3 l Z a0 hw [] G1 G2 b756 ob_743 kc_743 (nar .char (own_u y0 z0)) (nar .char (own_low (own_u y1 z1))) (nar .char (own_u y2 z2)) h756 n0 (by omega) f759 A A756 F757 F758 f760 (by omega) (own_chn _) (own_chn _) (own_chn _) (by first | assumption | decide | omega)) e756  [(.ref ob_743)] [(.ref b756)] 64 1 (hb hby d5_61) rfl (by rw [hml]; rfl) rfl rfl (lenOf pd_24 rfl) rfl (by decide) fun v761 T761 Lc761 X761 hQ761 => ?_
          obtain ⟨rfl, N761q, K761, G761_0⟩ := hQ761
          have N761 := Fr.app N755 N761q
          have z761 := K761.1
          have KK761 : Keep h0 T761.heap [] := KK756.trans K761 (allS (Or.inr (by omega)) all0)
          have hq762 : Q5n31 Z G1 G2 s1 ta kt x0 x1 x2 y0 y1 y2 z0 z1 z2 h0 n0 (some (.ref b756)) T761.heap _ := ⟨b756, rfl, N761, KK761, Or.inr ⟨by rw [← (show nar .char (own_u y0 z0) = own_low x0 by rw [show nar .char (own_u y0 z0) = (own_u y0 z0) from own_nn _, ← he0]; exact hc23), ← (show nar .char (own_low (own_u y1 z1)) = own_low x1 by rw [he1]; exact own_nch (own_lowCh hx1)), ← (show nar .char (own_u y2 z2) = own_low x2 by rw [show nar .char (own_u y2 z2) = (own_u y2 z2) from own_nn _, ← he2]; exact hc23bb)]; exact G761_0, fun q => hc23b (by rw [he1]; exact q.2.1)⟩⟩
          exact own_retR X761 hx hlk (w := (.ref b756)) rfl hrt rfl (hb hby d5_64) rfl hq762 (by decide) (by decide)
      · refine own_kN 26 X754 hx (hb hby d5_23) rfl (feq hc23bb).1 rfl ?_
        refine own_ru 27 [(.ref ob_743)] X754 hx hby e5_26_1 rfl rfl ?_
        refine own_st 35 [] (fun t k => XS.ifnonnullYes X754.here hx rfl (pc0 := 27) (pc' := 35) rfl (hb hby d5_27) rfl (by decide) (by decide) k) ?_
        refine own_ru 38 [(.int (own_u y2 z2)), (.int (2 : Int32)), (.ref ob_743)] X754 hx hby e5_35_3 rfl rfl ?_
        refine own_cS X754 hx hZ hown (wd75 hw) (wd76 hw) (by decide) (wd77 hw) (wd29 hw) (rm16 l Z a0 hw [] (own_u y2 z2) h746 n0 (by omega) (by rw [he2]; exact hx2)) e754  [(.int (own_u y2 z2))] [(.int (2 : Int32)), (.ref ob_743)] 41 2 (hb hby d5_38) rfl (by rw [hml]; rfl) rfl rfl (lenOf pd_22 rfl) rfl (by decide) fun v763 T763 Lc763 X763 hQ763 => ?_
        obtain ⟨rfl, N763q, e763⟩ := hQ763
        have N763 := Fr.app N754 N763q
        as_aux_lemma =>
          obtain ⟨cl764, Ar764, q764, S764, N764z, Hs764, G764⟩ := id V746
          have hin764 : ¬ ((2 : Int32) < 0 ∨ cl764.slots.size ≤ ((2 : Int32)).toNatClampNeg) := inb_of S764 ⟨by decide, by decide⟩
          obtain ⟨T765, h765, X765, e765, W765, st765⟩ := stC X763 hx hZ e763 Ar764 (j := (2 : Int32)) hin764 (g := (mkF m 41 #[.val (.ref s1), .val (.ref ob_743), .val (.int (2 : Int32)), .val (.int (own_u y2 z2))] [(.int (own_low (own_u y2 z2))), (.int (2 : Int32)), (.ref ob_743)])) rfl rfl (hb hby d5_41)
          have V765 : Arv Z h765 ob_743 kc_743 .char (3 : Int32) [(.int (nar .char (own_u y0 z0))), (.int (nar .char (own_low (own_u y1 z1)))), (.int (nar .char (own_low (own_u y2 z2))))] (.int (0 : Int32)) := Arv.set Ar764 q764 S764 N764z Hs764 G764 (fits_nar_char _) W765 2 rfl (Nat.le_of_ble_eq_true rfl)
          have z765 := W765.size
          have KK765 : Keep h0 h765 [] := KK746.wr W765 (Or.inr (by omega))
          have N765 := Fr.snoc X765 N763 (by omega)
          refine own_sT 42 [] st765 ?_
          refine own_rl 45 #[.val (.ref s1), .val (.ref ob_743), .val (.int (3 : Int32)), .val (.int (own_u y2 z2))] [] X765 hx hby e5_42_1 rfl rfl ?_
          refine own_go 4 X765 hx (hb hby d5_45) (by decide) (by decide) ?_
          refine own_ru 6 [(.ref s1), (.int (3 : Int32))] X765 hx hby e5_4_2 rfl rfl ?_
          have f766 := (f747.wr W765 (by omega))
          have f767 := (Exa.wr W765 f748)
          have f768 := (Fld.other W765 f749 (Or.inl (own_ne (by omega))))
          have f769 := (Fld.other W765 f750 (Or.inl (own_ne (by omega))))
          have f770 := (f751.other W765 (own_ne (by omega)))
          refine own_cV X765 hx hZ hown (wd31 hw) (wd32 hw) (notFace_of_selects (args := #[]) (mvT hZ (wd34 hw))) (wd34 hw) (wd33 hw) (by decide) (wd35 hw) (wd8 hw) (rm6d1 l Z a0 hw [] G1 G2 s1 ta kt (6 : Int32) [(.int y0), (.int z0), (.int y1), (.int z1), (.int y2), (.int z2)] h765 n0 (by omega) f766 A f767 f768 f769 f770) e765 f767 [] [(.int (3 : Int32))] 9 1 (hb hby d5_6) rfl (by rw [hml]; rfl) rfl rfl (lenOf pd_20 rfl) rfl (by decide) fun v771 T771 Lc771 X771 hQ771 => ?_
          obtain ⟨rfl, N771q, e771⟩ := hQ771
          have N771 := Fr.app N765 N771q
          refine own_kY 48 X771 hx (hb hby d5_9) rfl (flt (by decide : ¬ ((3 : Int32) < (3 : Int32)))).2.1 (by decide) (by decide) ?_
          refine own_ru 49 [(.ref ob_743)] X771 hx hby e5_48_1 rfl rfl ?_
          refine own_st 56 [] (fun t k => XS.ifnonnullYes X771.here hx rfl (pc0 := 49) (pc' := 56) rfl (hb hby d5_49) rfl (by decide) (by decide) k) ?_
          refine own_nO X771 hx hZ hown (wd96 hw) (wd7 hw) (wd8 hw) e771 59 (hb hby d5_56) rfl (by decide) (by decide) fun T772 h772 b772 g772 X772 e772 E772 A772 D772 UN772 => ?_
          have ll772 : @LT.lt Nat _ b772 (Array.size h772) := A772.lt
          have KK772 : Keep h0 h772 [] := KK765.ext E772
          have z772 := E772.1
          have F773 : fl2 Z h772 b772 .null := D772 (Or.inr (wd21 hw)) (ty := (.array .byte)) (by decide)
          have F774 : fl0 Z h772 b772 (.int (0 : Int32)) := D772 (Or.inr (wd22 hw)) (ty := .byte) (by decide)
          refine own_ru 61 [(.ref ob_743), (.ref b772), (.ref b772)] X772 hx hby e5_59_2 rfl rfl ?_
          have f775 := (f766.ext E772)
          have f776 := (V765.ext E772)
          refine own_cN X772 hx hZ hown rfl (wd97 hw) (wd10 hw) (by decide) (wd11 hw) (wd8 hw) (rm2n3 l Z a0 hw [] G1 G2 b772 ob_743 kc_743 (nar .char (own_u y0 z0)) (nar .char (own_low (own_u y1 z1))) (nar .char (own_low (own_u y2 z2))) h772 n0 (by omega) f775 A A772 F773 F774 f776 (by omega) (own_chn _) (own_chn _) (own_chn _) (by first | assumption | decide | omega)) e772  [(.ref ob_743)] [(.ref b772)] 64 1 (hb hby d5_61) rfl (by rw [hml]; rfl) rfl rfl (lenOf pd_24 rfl) rfl (by decide) fun v777 T777 Lc777 X777 hQ777 => ?_
          obtain ⟨rfl, N777q, K777, G777_0⟩ := hQ777
          have N777 := Fr.app N771 N777q
          have z777 := K777.1
          have KK777 : Keep h0 T777.heap [] := KK772.trans K777 (allS (Or.inr (by omega)) all0)
          have hq778 : Q5n31 Z G1 G2 s1 ta kt x0 x1 x2 y0 y1 y2 z0 z1 z2 h0 n0 (some (.ref b772)) T777.heap _ := ⟨b772, rfl, N777, KK777, Or.inr ⟨by rw [← (show nar .char (own_u y0 z0) = own_low x0 by rw [show nar .char (own_u y0 z0) = (own_u y0 z0) from own_nn _, ← he0]; exact hc23), ← (show nar .char (own_low (own_u y1 z1)) = own_low x1 by rw [he1]; exact own_nch (own_lowCh hx1)), ← (show nar .char (own_low (own_u y2 z2)) = own_low x2 by rw [he2]; exact own_nch (own_lowCh hx2))]; exact G777_0, fun q => hc23b (by rw [he1]; exact q.2.1)⟩⟩
          exact own_retR X777 hx hlk (w := (.ref b772)) rfl hrt rfl (hb hby d5_64) rfl hq778 (by decide) (by decide)
  · refine own_kN 26 X717 hx (hb hby d5_23) rfl (feq hc23).1 rfl ?_
    refine own_ru 27 [.null] X717 hx hby e5_26_1 rfl rfl ?_
    refine own_st 30 [] (fun t k => XS.ifnonnullNo X717.here hx rfl (hb hby d5_27) rfl k) ?_
    refine own_ru 31 [(.ref s1)] X717 hx hby e5_30_1 rfl rfl ?_
    refine own_cV X717 hx hZ hown (wd85 hw) (wd86 hw) (notFace_of_selects (args := #[]) (mvT hZ (wd88 hw))) (wd88 hw) (wd87 hw) (by decide) (wd89 hw) (wd8 hw) (rm19n31 l Z a0 hw [] G1 G2 s1 ta kt y0 y1 y2 z0 z1 z2 h0 n0 (by omega) OLD A P0 P1 P2 P3) e717 P0 [] [] 34 0 (hb hby d5_31) rfl (by rw [hml]; rfl) rfl rfl (lenOf pd_23 rfl) rfl (by decide) fun v779 T779 Lc779 X779 hQ779 => ?_
    obtain ⟨ob_779, kc_779, rfl, N779q, K779, G779_0, U779_0⟩ := hQ779
    have N779 := Fr.app N717 N779q
    have z779 := K779.1
    have KK779 : Keep h0 T779.heap [] := (Keep.refl h0 []).trans K779 all0
    have lt779_0 : @LT.lt Nat _ ob_779 (Array.size T779.heap) := G779_0.lt
    refine own_rl 38 #[.val (.ref s1), .val (.ref ob_779), .val (.int (0 : Int32)), .val (.int (own_u y0 z0))] [(.int (own_u y0 z0)), (.int (0 : Int32)), (.ref ob_779)] X779 hx hby e5_34_4 rfl rfl ?_
    refine own_cS X779 hx hZ hown (wd75 hw) (wd76 hw) (by decide) (wd77 hw) (wd29 hw) (rm16 l Z a0 hw [] (own_u y0 z0) T779.heap n0 (by omega) (by rw [he0]; exact hx0)) rfl  [(.int (own_u y0 z0))] [(.int (0 : Int32)), (.ref ob_779)] 41 2 (hb hby d5_38) rfl (by rw [hml]; rfl) rfl rfl (lenOf pd_22 rfl) rfl (by decide) fun v780 T780 Lc780 X780 hQ780 => ?_
    obtain ⟨rfl, N780q, e780⟩ := hQ780
    have N780 := Fr.app N779 N780q
    obtain ⟨cl781, Ar781, q781, S781, N781z, Hs781, G781⟩ := id G779_0
    have hin781 : ¬ ((0 : Int32) < 0 ∨ cl781.slots.size ≤ ((0 : Int32)).toNatClampNeg) := inb_of S781 ⟨by decide, by decide⟩
    obtain ⟨T782, h782, X782, e782, W782, st782⟩ := stC X780 hx hZ e780 Ar781 (j := (0 : Int32)) hin781 (g := (mkF m 41 #[.val (.ref s1), .val (.ref ob_779), .val (.int (0 : Int32)), .val (.int (own_u y0 z0))] [(.int (own_low (own_u y0 z0))), (.int (0 : Int32)), (.ref ob_779)])) rfl rfl (hb hby d5_41)
    have V782 : Arv Z h782 ob_779 kc_779 .char (3 : Int32) [(.int (nar .char (own_low (own_u y0 z0)))), (.int (nar .char (own_u y1 z1))), (.int (nar .char (own_u y2 z2)))] (.int (0 : Int32)) := Arv.set Ar781 q781 S781 N781z Hs781 G781 (fits_nar_char _) W782 0 rfl (Nat.le_of_ble_eq_true rfl)
    have z782 := W782.size
    have KK782 : Keep h0 h782 [] := KK779.wr W782 (Or.inr (by omega))
    have N782 := Fr.snoc X782 N780 (by omega)
    refine own_sT 42 [] st782 ?_
    refine own_rl 45 #[.val (.ref s1), .val (.ref ob_779), .val (.int (1 : Int32)), .val (.int (own_u y0 z0))] [] X782 hx hby e5_42_1 rfl rfl ?_
    refine own_go 4 X782 hx (hb hby d5_45) (by decide) (by decide) ?_
    refine own_ru 6 [(.ref s1), (.int (1 : Int32))] X782 hx hby e5_4_2 rfl rfl ?_
    have f783 := ((OLD.keep K779 all0).wr W782 (by omega))
    have f784 := (Exa.wr W782 (Exa.keep P0 K779))
    have f785 := (Fld.other W782 (P1.keep K779 nin0) (Or.inl (own_ne (by omega))))
    have f786 := (Fld.other W782 (P2.keep K779 nin0) (Or.inl (own_ne (by omega))))
    have f787 := ((P3.keep K779 nin0).other W782 (own_ne (by omega)))
    refine own_cV X782 hx hZ hown (wd31 hw) (wd32 hw) (notFace_of_selects (args := #[]) (mvT hZ (wd34 hw))) (wd34 hw) (wd33 hw) (by decide) (wd35 hw) (wd8 hw) (rm6d1 l Z a0 hw [] G1 G2 s1 ta kt (6 : Int32) [(.int y0), (.int z0), (.int y1), (.int z1), (.int y2), (.int z2)] h782 n0 (by omega) f783 A f784 f785 f786 f787) e782 f784 [] [(.int (1 : Int32))] 9 1 (hb hby d5_6) rfl (by rw [hml]; rfl) rfl rfl (lenOf pd_20 rfl) rfl (by decide) fun v788 T788 Lc788 X788 hQ788 => ?_
    obtain ⟨rfl, N788q, e788⟩ := hQ788
    have N788 := Fr.app N782 N788q
    refine own_kN 12 X788 hx (hb hby d5_9) rfl (tlt (by decide : ((1 : Int32) < (3 : Int32)))).2.1 rfl ?_
    refine own_ru 14 [(.int (1 : Int32)), (.ref s1)] X788 hx hby e5_12_2 rfl rfl ?_
    refine own_cV X788 hx hZ hown (wd53 hw) (wd54 hw) (notFace_of_selects (args := #[]) (mvT hZ (wd56 hw))) (wd56 hw) (wd55 hw) (by decide) (wd57 hw) (wd8 hw) (rm11u l Z a0 hw [] G1 G2 s1 (1 : Int32) ta kt (6 : Int32) [(.int y0), (.int z0), (.int y1), (.int z1), (.int y2), (.int z2)] y1 z1 h782 n0 (by omega) f783 A f784 f785 f786 f787 (by decide) (by decide) ⟨by decide, by decide⟩ ⟨by decide, by decide⟩ rfl rfl) e788 f784 [(.int (1 : Int32))] [] 17 0 (hb hby d5_14) rfl (by rw [hml]; rfl) rfl rfl (lenOf pd_21 rfl) rfl (by decide) fun v789 T789 Lc789 X789 hQ789 => ?_
    obtain ⟨rfl, N789q, e789⟩ := hQ789
    have N789 := Fr.app N788 N789q
    refine own_rl 20 #[.val (.ref s1), .val (.ref ob_779), .val (.int (1 : Int32)), .val (.int (own_u y1 z1))] [(.int (own_u y1 z1)), (.int (own_u y1 z1))] X789 hx hby e5_17_3 rfl rfl ?_
    refine own_cS X789 hx hZ hown (wd75 hw) (wd76 hw) (by decide) (wd77 hw) (wd29 hw) (rm16 l Z a0 hw [] (own_u y1 z1) h782 n0 (by omega) (by rw [he1]; exact hx1)) e789  [(.int (own_u y1 z1))] [(.int (own_u y1 z1))] 23 1 (hb hby d5_20) rfl (by rw [hml]; rfl) rfl rfl (lenOf pd_22 rfl) rfl (by decide) fun v790 T790 Lc790 X790 hQ790 => ?_
    obtain ⟨rfl, N790q, e790⟩ := hQ790
    have N790 := Fr.app N789 N790q
    by_cases hc23b : (own_u y1 z1) = (own_low (own_u y1 z1))
    · refine own_kY 42 X790 hx (hb hby d5_23) rfl (teq hc23b).1 (by decide) (by decide) ?_
      refine own_rl 45 #[.val (.ref s1), .val (.ref ob_779), .val (.int (2 : Int32)), .val (.int (own_u y1 z1))] [] X790 hx hby e5_42_1 rfl rfl ?_
      refine own_go 4 X790 hx (hb hby d5_45) (by decide) (by decide) ?_
      refine own_ru 6 [(.ref s1), (.int (2 : Int32))] X790 hx hby e5_4_2 rfl rfl ?_
      refine own_cV X790 hx hZ hown (wd31 hw) (wd32 hw) (notFace_of_selects (args := #[]) (mvT hZ (wd34 hw))) (wd34 hw) (wd33 hw) (by decide) (wd35 hw) (wd8 hw) (rm6d1 l Z a0 hw [] G1 G2 s1 ta kt (6 : Int32) [(.int y0), (.int z0), (.int y1), (.int z1), (.int y2), (.int z2)] h782 n0 (by omega) f783 A f784 f785 f786 f787) e790 f784 [] [(.int (2 : Int32))] 9 1 (hb hby d5_6) rfl (by rw [hml]; rfl) rfl rfl (lenOf pd_20 rfl) rfl (by decide) fun v791 T791 Lc791 X791 hQ791 => ?_
      obtain ⟨rfl, N791q, e791⟩ := hQ791
      have N791 := Fr.app N790 N791q
      refine own_kN 12 X791 hx (hb hby d5_9) rfl (tlt (by decide : ((2 : Int32) < (3 : Int32)))).2.1 rfl ?_
      refine own_ru 14 [(.int (2 : Int32)), (.ref s1)] X791 hx hby e5_12_2 rfl rfl ?_
      refine own_cV X791 hx hZ hown (wd53 hw) (wd54 hw) (notFace_of_selects (args := #[]) (mvT hZ (wd56 hw))) (wd56 hw) (wd55 hw) (by decide) (wd57 hw) (wd8 hw) (rm11u l Z a0 hw [] G1 G2 s1 (2 : Int32) ta kt (6 : Int32) [(.int y0), (.int z0), (.int y1), (.int z1), (.int y2), (.int z2)] y2 z2 h782 n0 (by omega) f783 A f784 f785 f786 f787 (by decide) (by decide) ⟨by decide, by decide⟩ ⟨by decide, by decide⟩ rfl rfl) e791 f784 [(.int (2 : Int32))] [] 17 0 (hb hby d5_14) rfl (by rw [hml]; rfl) rfl rfl (lenOf pd_21 rfl) rfl (by decide) fun v792 T792 Lc792 X792 hQ792 => ?_
      obtain ⟨rfl, N792q, e792⟩ := hQ792
      have N792 := Fr.app N791 N792q
      refine own_rl 20 #[.val (.ref s1), .val (.ref ob_779), .val (.int (2 : Int32)), .val (.int (own_u y2 z2))] [(.int (own_u y2 z2)), (.int (own_u y2 z2))] X792 hx hby e5_17_3 rfl rfl ?_
      refine own_cS X792 hx hZ hown (wd75 hw) (wd76 hw) (by decide) (wd77 hw) (wd29 hw) (rm16 l Z a0 hw [] (own_u y2 z2) h782 n0 (by omega) (by rw [he2]; exact hx2)) e792  [(.int (own_u y2 z2))] [(.int (own_u y2 z2))] 23 1 (hb hby d5_20) rfl (by rw [hml]; rfl) rfl rfl (lenOf pd_22 rfl) rfl (by decide) fun v793 T793 Lc793 X793 hQ793 => ?_
      obtain ⟨rfl, N793q, e793⟩ := hQ793
      have N793 := Fr.app N792 N793q
      by_cases hc23bb : (own_u y2 z2) = (own_low (own_u y2 z2))
      · refine own_kY 42 X793 hx (hb hby d5_23) rfl (teq hc23bb).1 (by decide) (by decide) ?_
        refine own_rl 45 #[.val (.ref s1), .val (.ref ob_779), .val (.int (3 : Int32)), .val (.int (own_u y2 z2))] [] X793 hx hby e5_42_1 rfl rfl ?_
        refine own_go 4 X793 hx (hb hby d5_45) (by decide) (by decide) ?_
        refine own_ru 6 [(.ref s1), (.int (3 : Int32))] X793 hx hby e5_4_2 rfl rfl ?_
        refine own_cV X793 hx hZ hown (wd31 hw) (wd32 hw) (notFace_of_selects (args := #[]) (mvT hZ (wd34 hw))) (wd34 hw) (wd33 hw) (by decide) (wd35 hw) (wd8 hw) (rm6d1 l Z a0 hw [] G1 G2 s1 ta kt (6 : Int32) [(.int y0), (.int z0), (.int y1), (.int z1), (.int y2), (.int z2)] h782 n0 (by omega) f783 A f784 f785 f786 f787) e793 f784 [] [(.int (3 : Int32))] 9 1 (hb hby d5_6) rfl (by rw [hml]; rfl) rfl rfl (lenOf pd_20 rfl) rfl (by decide) fun v794 T794 Lc794 X794 hQ794 => ?_
        obtain ⟨rfl, N794q, e794⟩ := hQ794
        have N794 := Fr.app N793 N794q
        refine own_kY 48 X794 hx (hb hby d5_9) rfl (flt (by decide : ¬ ((3 : Int32) < (3 : Int32)))).2.1 (by decide) (by decide) ?_
        as_aux_lemma =>
          refine own_ru 49 [(.ref ob_779)] X794 hx hby e5_48_1 rfl rfl ?_
          refine own_st 56 [] (fun t k => XS.ifnonnullYes X794.here hx rfl (pc0 := 49) (pc' := 56) rfl (hb hby d5_49) rfl (by decide) (by decide) k) ?_
          refine own_nO X794 hx hZ hown (wd96 hw) (wd7 hw) (wd8 hw) e794 59 (hb hby d5_56) rfl (by decide) (by decide) fun T795 h795 b795 g795 X795 e795 E795 A795 D795 UN795 => ?_
          have ll795 : @LT.lt Nat _ b795 (Array.size h795) := A795.lt
          have KK795 : Keep h0 h795 [] := KK782.ext E795
          have z795 := E795.1
          have F796 : fl2 Z h795 b795 .null := D795 (Or.inr (wd21 hw)) (ty := (.array .byte)) (by decide)
          have F797 : fl0 Z h795 b795 (.int (0 : Int32)) := D795 (Or.inr (wd22 hw)) (ty := .byte) (by decide)
          refine own_ru 61 [(.ref ob_779), (.ref b795), (.ref b795)] X795 hx hby e5_59_2 rfl rfl ?_
          have f798 := (f783.ext E795)
          have f799 := (V782.ext E795)
          refine own_cN X795 hx hZ hown rfl (wd97 hw) (wd10 hw) (by decide) (wd11 hw) (wd8 hw) (rm2n3 l Z a0 hw [] G1 G2 b795 ob_779 kc_779 (nar .char (own_low (own_u y0 z0))) (nar .char (own_u y1 z1)) (nar .char (own_u y2 z2)) h795 n0 (by omega) f798 A A795 F796 F797 f799 (by omega) (own_chn _) (own_chn _) (own_chn _) (by first | assumption | decide | omega)) e795  [(.ref ob_779)] [(.ref b795)] 64 1 (hb hby d5_61) rfl (by rw [hml]; rfl) rfl rfl (lenOf pd_24 rfl) rfl (by decide) fun v800 T800 Lc800 X800 hQ800 => ?_
          obtain ⟨rfl, N800q, K800, G800_0⟩ := hQ800
          have N800 := Fr.app N794 N800q
          have z800 := K800.1
          have KK800 : Keep h0 T800.heap [] := KK795.trans K800 (allS (Or.inr (by omega)) all0)
          have hq801 : Q5n31 Z G1 G2 s1 ta kt x0 x1 x2 y0 y1 y2 z0 z1 z2 h0 n0 (some (.ref b795)) T800.heap _ := ⟨b795, rfl, N800, KK800, Or.inr ⟨by rw [← (show nar .char (own_low (own_u y0 z0)) = own_low x0 by rw [he0]; exact own_nch (own_lowCh hx0)), ← (show nar .char (own_u y1 z1) = own_low x1 by rw [show nar .char (own_u y1 z1) = (own_u y1 z1) from own_nn _, ← he1]; exact hc23b), ← (show nar .char (own_u y2 z2) = own_low x2 by rw [show nar .char (own_u y2 z2) = (own_u y2 z2) from own_nn _, ← he2]; exact hc23bb)]; exact G800_0, fun q => hc23 (by rw [he0]; exact q.1)⟩⟩
          exact own_retR X800 hx hlk (w := (.ref b795)) rfl hrt rfl (hb hby d5_64) rfl hq801 (by decide) (by decide)
      · refine own_kN 26 X793 hx (hb hby d5_23) rfl (feq hc23bb).1 rfl ?_
        refine own_ru 27 [(.ref ob_779)] X793 hx hby e5_26_1 rfl rfl ?_
        refine own_st 35 [] (fun t k => XS.ifnonnullYes X793.here hx rfl (pc0 := 27) (pc' := 35) rfl (hb hby d5_27) rfl (by decide) (by decide) k) ?_
        refine own_ru 38 [(.int (own_u y2 z2)), (.int (2 : Int32)), (.ref ob_779)] X793 hx hby e5_35_3 rfl rfl ?_
        refine own_cS X793 hx hZ hown (wd75 hw) (wd76 hw) (by decide) (wd77 hw) (wd29 hw) (rm16 l Z a0 hw [] (own_u y2 z2) h782 n0 (by omega) (by rw [he2]; exact hx2)) e793  [(.int (own_u y2 z2))] [(.int (2 : Int32)), (.ref ob_779)] 41 2 (hb hby d5_38) rfl (by rw [hml]; rfl) rfl rfl (lenOf pd_22 rfl) rfl (by decide) fun v802 T802 Lc802 X802 hQ802 => ?_
        obtain ⟨rfl, N802q, e802⟩ := hQ802
        have N802 := Fr.app N793 N802q
        as_aux_lemma =>
          obtain ⟨cl803, Ar803, q803, S803, N803z, Hs803, G803⟩ := id V782
          have hin803 : ¬ ((2 : Int32) < 0 ∨ cl803.slots.size ≤ ((2 : Int32)).toNatClampNeg) := inb_of S803 ⟨by decide, by decide⟩
          obtain ⟨T804, h804, X804, e804, W804, st804⟩ := stC X802 hx hZ e802 Ar803 (j := (2 : Int32)) hin803 (g := (mkF m 41 #[.val (.ref s1), .val (.ref ob_779), .val (.int (2 : Int32)), .val (.int (own_u y2 z2))] [(.int (own_low (own_u y2 z2))), (.int (2 : Int32)), (.ref ob_779)])) rfl rfl (hb hby d5_41)
          have V804 : Arv Z h804 ob_779 kc_779 .char (3 : Int32) [(.int (nar .char (own_low (own_u y0 z0)))), (.int (nar .char (own_u y1 z1))), (.int (nar .char (own_low (own_u y2 z2))))] (.int (0 : Int32)) := Arv.set Ar803 q803 S803 N803z Hs803 G803 (fits_nar_char _) W804 2 rfl (Nat.le_of_ble_eq_true rfl)
          have z804 := W804.size
          have KK804 : Keep h0 h804 [] := KK782.wr W804 (Or.inr (by omega))
          have N804 := Fr.snoc X804 N802 (by omega)
          refine own_sT 42 [] st804 ?_
          refine own_rl 45 #[.val (.ref s1), .val (.ref ob_779), .val (.int (3 : Int32)), .val (.int (own_u y2 z2))] [] X804 hx hby e5_42_1 rfl rfl ?_
          refine own_go 4 X804 hx (hb hby d5_45) (by decide) (by decide) ?_
          refine own_ru 6 [(.ref s1), (.int (3 : Int32))] X804 hx hby e5_4_2 rfl rfl ?_
          have f805 := (f783.wr W804 (by omega))
          have f806 := (Exa.wr W804 f784)
          have f807 := (Fld.other W804 f785 (Or.inl (own_ne (by omega))))
          have f808 := (Fld.other W804 f786 (Or.inl (own_ne (by omega))))
          have f809 := (f787.other W804 (own_ne (by omega)))
          refine own_cV X804 hx hZ hown (wd31 hw) (wd32 hw) (notFace_of_selects (args := #[]) (mvT hZ (wd34 hw))) (wd34 hw) (wd33 hw) (by decide) (wd35 hw) (wd8 hw) (rm6d1 l Z a0 hw [] G1 G2 s1 ta kt (6 : Int32) [(.int y0), (.int z0), (.int y1), (.int z1), (.int y2), (.int z2)] h804 n0 (by omega) f805 A f806 f807 f808 f809) e804 f806 [] [(.int (3 : Int32))] 9 1 (hb hby d5_6) rfl (by rw [hml]; rfl) rfl rfl (lenOf pd_20 rfl) rfl (by decide) fun v810 T810 Lc810 X810 hQ810 => ?_
          obtain ⟨rfl, N810q, e810⟩ := hQ810
          have N810 := Fr.app N804 N810q
          refine own_kY 48 X810 hx (hb hby d5_9) rfl (flt (by decide : ¬ ((3 : Int32) < (3 : Int32)))).2.1 (by decide) (by decide) ?_
          refine own_ru 49 [(.ref ob_779)] X810 hx hby e5_48_1 rfl rfl ?_
          refine own_st 56 [] (fun t k => XS.ifnonnullYes X810.here hx rfl (pc0 := 49) (pc' := 56) rfl (hb hby d5_49) rfl (by decide) (by decide) k) ?_
          refine own_nO X810 hx hZ hown (wd96 hw) (wd7 hw) (wd8 hw) e810 59 (hb hby d5_56) rfl (by decide) (by decide) fun T811 h811 b811 g811 X811 e811 E811 A811 D811 UN811 => ?_
          have ll811 : @LT.lt Nat _ b811 (Array.size h811) := A811.lt
          have KK811 : Keep h0 h811 [] := KK804.ext E811
          have z811 := E811.1
          have F812 : fl2 Z h811 b811 .null := D811 (Or.inr (wd21 hw)) (ty := (.array .byte)) (by decide)
          have F813 : fl0 Z h811 b811 (.int (0 : Int32)) := D811 (Or.inr (wd22 hw)) (ty := .byte) (by decide)
          refine own_ru 61 [(.ref ob_779), (.ref b811), (.ref b811)] X811 hx hby e5_59_2 rfl rfl ?_
          have f814 := (f805.ext E811)
          have f815 := (V804.ext E811)
          refine own_cN X811 hx hZ hown rfl (wd97 hw) (wd10 hw) (by decide) (wd11 hw) (wd8 hw) (rm2n3 l Z a0 hw [] G1 G2 b811 ob_779 kc_779 (nar .char (own_low (own_u y0 z0))) (nar .char (own_u y1 z1)) (nar .char (own_low (own_u y2 z2))) h811 n0 (by omega) f814 A A811 F812 F813 f815 (by omega) (own_chn _) (own_chn _) (own_chn _) (by first | assumption | decide | omega)) e811  [(.ref ob_779)] [(.ref b811)] 64 1 (hb hby d5_61) rfl (by rw [hml]; rfl) rfl rfl (lenOf pd_24 rfl) rfl (by decide) fun v816 T816 Lc816 X816 hQ816 => ?_
          obtain ⟨rfl, N816q, K816, G816_0⟩ := hQ816
          have N816 := Fr.app N810 N816q
          have z816 := K816.1
          have KK816 : Keep h0 T816.heap [] := KK811.trans K816 (allS (Or.inr (by omega)) all0)
          have hq817 : Q5n31 Z G1 G2 s1 ta kt x0 x1 x2 y0 y1 y2 z0 z1 z2 h0 n0 (some (.ref b811)) T816.heap _ := ⟨b811, rfl, N816, KK816, Or.inr ⟨by rw [← (show nar .char (own_low (own_u y0 z0)) = own_low x0 by rw [he0]; exact own_nch (own_lowCh hx0)), ← (show nar .char (own_u y1 z1) = own_low x1 by rw [show nar .char (own_u y1 z1) = (own_u y1 z1) from own_nn _, ← he1]; exact hc23b), ← (show nar .char (own_low (own_u y2 z2)) = own_low x2 by rw [he2]; exact own_nch (own_lowCh hx2))]; exact G816_0, fun q => hc23 (by rw [he0]; exact q.1)⟩⟩
          exact own_retR X816 hx hlk (w := (.ref b811)) rfl hrt rfl (hb hby d5_64) rfl hq817 (by decide) (by decide)
    · refine own_kN 26 X790 hx (hb hby d5_23) rfl (feq hc23b).1 rfl ?_
      refine own_ru 27 [(.ref ob_779)] X790 hx hby e5_26_1 rfl rfl ?_
      refine own_st 35 [] (fun t k => XS.ifnonnullYes X790.here hx rfl (pc0 := 27) (pc' := 35) rfl (hb hby d5_27) rfl (by decide) (by decide) k) ?_
      refine own_ru 38 [(.int (own_u y1 z1)), (.int (1 : Int32)), (.ref ob_779)] X790 hx hby e5_35_3 rfl rfl ?_
      refine own_cS X790 hx hZ hown (wd75 hw) (wd76 hw) (by decide) (wd77 hw) (wd29 hw) (rm16 l Z a0 hw [] (own_u y1 z1) h782 n0 (by omega) (by rw [he1]; exact hx1)) e790  [(.int (own_u y1 z1))] [(.int (1 : Int32)), (.ref ob_779)] 41 2 (hb hby d5_38) rfl (by rw [hml]; rfl) rfl rfl (lenOf pd_22 rfl) rfl (by decide) fun v818 T818 Lc818 X818 hQ818 => ?_
      obtain ⟨rfl, N818q, e818⟩ := hQ818
      have N818 := Fr.app N790 N818q
      obtain ⟨cl819, Ar819, q819, S819, N819z, Hs819, G819⟩ := id V782
      have hin819 : ¬ ((1 : Int32) < 0 ∨ cl819.slots.size ≤ ((1 : Int32)).toNatClampNeg) := inb_of S819 ⟨by decide, by decide⟩
      obtain ⟨T820, h820, X820, e820, W820, st820⟩ := stC X818 hx hZ e818 Ar819 (j := (1 : Int32)) hin819 (g := (mkF m 41 #[.val (.ref s1), .val (.ref ob_779), .val (.int (1 : Int32)), .val (.int (own_u y1 z1))] [(.int (own_low (own_u y1 z1))), (.int (1 : Int32)), (.ref ob_779)])) rfl rfl (hb hby d5_41)
      have V820 : Arv Z h820 ob_779 kc_779 .char (3 : Int32) [(.int (nar .char (own_low (own_u y0 z0)))), (.int (nar .char (own_low (own_u y1 z1)))), (.int (nar .char (own_u y2 z2)))] (.int (0 : Int32)) := Arv.set Ar819 q819 S819 N819z Hs819 G819 (fits_nar_char _) W820 1 rfl (Nat.le_of_ble_eq_true rfl)
      have z820 := W820.size
      have KK820 : Keep h0 h820 [] := KK782.wr W820 (Or.inr (by omega))
      have N820 := Fr.snoc X820 N818 (by omega)
      refine own_sT 42 [] st820 ?_
      refine own_rl 45 #[.val (.ref s1), .val (.ref ob_779), .val (.int (2 : Int32)), .val (.int (own_u y1 z1))] [] X820 hx hby e5_42_1 rfl rfl ?_
      refine own_go 4 X820 hx (hb hby d5_45) (by decide) (by decide) ?_
      refine own_ru 6 [(.ref s1), (.int (2 : Int32))] X820 hx hby e5_4_2 rfl rfl ?_
      have f821 := (f783.wr W820 (by omega))
      have f822 := (Exa.wr W820 f784)
      have f823 := (Fld.other W820 f785 (Or.inl (own_ne (by omega))))
      have f824 := (Fld.other W820 f786 (Or.inl (own_ne (by omega))))
      have f825 := (f787.other W820 (own_ne (by omega)))
      refine own_cV X820 hx hZ hown (wd31 hw) (wd32 hw) (notFace_of_selects (args := #[]) (mvT hZ (wd34 hw))) (wd34 hw) (wd33 hw) (by decide) (wd35 hw) (wd8 hw) (rm6d1 l Z a0 hw [] G1 G2 s1 ta kt (6 : Int32) [(.int y0), (.int z0), (.int y1), (.int z1), (.int y2), (.int z2)] h820 n0 (by omega) f821 A f822 f823 f824 f825) e820 f822 [] [(.int (2 : Int32))] 9 1 (hb hby d5_6) rfl (by rw [hml]; rfl) rfl rfl (lenOf pd_20 rfl) rfl (by decide) fun v826 T826 Lc826 X826 hQ826 => ?_
      obtain ⟨rfl, N826q, e826⟩ := hQ826
      have N826 := Fr.app N820 N826q
      refine own_kN 12 X826 hx (hb hby d5_9) rfl (tlt (by decide : ((2 : Int32) < (3 : Int32)))).2.1 rfl ?_
      refine own_ru 14 [(.int (2 : Int32)), (.ref s1)] X826 hx hby e5_12_2 rfl rfl ?_
      refine own_cV X826 hx hZ hown (wd53 hw) (wd54 hw) (notFace_of_selects (args := #[]) (mvT hZ (wd56 hw))) (wd56 hw) (wd55 hw) (by decide) (wd57 hw) (wd8 hw) (rm11u l Z a0 hw [] G1 G2 s1 (2 : Int32) ta kt (6 : Int32) [(.int y0), (.int z0), (.int y1), (.int z1), (.int y2), (.int z2)] y2 z2 h820 n0 (by omega) f821 A f822 f823 f824 f825 (by decide) (by decide) ⟨by decide, by decide⟩ ⟨by decide, by decide⟩ rfl rfl) e826 f822 [(.int (2 : Int32))] [] 17 0 (hb hby d5_14) rfl (by rw [hml]; rfl) rfl rfl (lenOf pd_21 rfl) rfl (by decide) fun v827 T827 Lc827 X827 hQ827 => ?_
      obtain ⟨rfl, N827q, e827⟩ := hQ827
      have N827 := Fr.app N826 N827q
      refine own_rl 20 #[.val (.ref s1), .val (.ref ob_779), .val (.int (2 : Int32)), .val (.int (own_u y2 z2))] [(.int (own_u y2 z2)), (.int (own_u y2 z2))] X827 hx hby e5_17_3 rfl rfl ?_
      refine own_cS X827 hx hZ hown (wd75 hw) (wd76 hw) (by decide) (wd77 hw) (wd29 hw) (rm16 l Z a0 hw [] (own_u y2 z2) h820 n0 (by omega) (by rw [he2]; exact hx2)) e827  [(.int (own_u y2 z2))] [(.int (own_u y2 z2))] 23 1 (hb hby d5_20) rfl (by rw [hml]; rfl) rfl rfl (lenOf pd_22 rfl) rfl (by decide) fun v828 T828 Lc828 X828 hQ828 => ?_
      obtain ⟨rfl, N828q, e828⟩ := hQ828
      have N828 := Fr.app N827 N828q
      as_aux_lemma =>
        by_cases hc23bb : (own_u y2 z2) = (own_low (own_u y2 z2))
        · refine own_kY 42 X828 hx (hb hby d5_23) rfl (teq hc23bb).1 (by decide) (by decide) ?_
          refine own_rl 45 #[.val (.ref s1), .val (.ref ob_779), .val (.int (3 : Int32)), .val (.int (own_u y2 z2))] [] X828 hx hby e5_42_1 rfl rfl ?_
          refine own_go 4 X828 hx (hb hby d5_45) (by decide) (by decide) ?_
          refine own_ru 6 [(.ref s1), (.int (3 : Int32))] X828 hx hby e5_4_2 rfl rfl ?_
          refine own_cV X828 hx hZ hown (wd31 hw) (wd32 hw) (notFace_of_selects (args := #[]) (mvT hZ (wd34 hw))) (wd34 hw) (wd33 hw) (by decide) (wd35 hw) (wd8 hw) (rm6d1 l Z a0 hw [] G1 G2 s1 ta kt (6 : Int32) [(.int y0), (.int z0), (.int y1), (.int z1), (.int y2), (.int z2)] h820 n0 (by omega) f821 A f822 f823 f824 f825) e828 f822 [] [(.int (3 : Int32))] 9 1 (hb hby d5_6) rfl (by rw [hml]; rfl) rfl rfl (lenOf pd_20 rfl) rfl (by decide) fun v829 T829 Lc829 X829 hQ829 => ?_
          obtain ⟨rfl, N829q, e829⟩ := hQ829
          have N829 := Fr.app N828 N829q
          refine own_kY 48 X829 hx (hb hby d5_9) rfl (flt (by decide : ¬ ((3 : Int32) < (3 : Int32)))).2.1 (by decide) (by decide) ?_
          refine own_ru 49 [(.ref ob_779)] X829 hx hby e5_48_1 rfl rfl ?_
          refine own_st 56 [] (fun t k => XS.ifnonnullYes X829.here hx rfl (pc0 := 49) (pc' := 56) rfl (hb hby d5_49) rfl (by decide) (by decide) k) ?_
          refine own_nO X829 hx hZ hown (wd96 hw) (wd7 hw) (wd8 hw) e829 59 (hb hby d5_56) rfl (by decide) (by decide) fun T830 h830 b830 g830 X830 e830 E830 A830 D830 UN830 => ?_
          have ll830 : @LT.lt Nat _ b830 (Array.size h830) := A830.lt
          have KK830 : Keep h0 h830 [] := KK820.ext E830
          have z830 := E830.1
          have F831 : fl2 Z h830 b830 .null := D830 (Or.inr (wd21 hw)) (ty := (.array .byte)) (by decide)
          have F832 : fl0 Z h830 b830 (.int (0 : Int32)) := D830 (Or.inr (wd22 hw)) (ty := .byte) (by decide)
          refine own_ru 61 [(.ref ob_779), (.ref b830), (.ref b830)] X830 hx hby e5_59_2 rfl rfl ?_
          have f833 := (f821.ext E830)
          have f834 := (V820.ext E830)
          refine own_cN X830 hx hZ hown rfl (wd97 hw) (wd10 hw) (by decide) (wd11 hw) (wd8 hw) (rm2n3 l Z a0 hw [] G1 G2 b830 ob_779 kc_779 (nar .char (own_low (own_u y0 z0))) (nar .char (own_low (own_u y1 z1))) (nar .char (own_u y2 z2)) h830 n0 (by omega) f833 A A830 F831 F832 f834 (by omega) (own_chn _) (own_chn _) (own_chn _) (by first | assumption | decide | omega)) e830  [(.ref ob_779)] [(.ref b830)] 64 1 (hb hby d5_61) rfl (by rw [hml]; rfl) rfl rfl (lenOf pd_24 rfl) rfl (by decide) fun v835 T835 Lc835 X835 hQ835 => ?_
          obtain ⟨rfl, N835q, K835, G835_0⟩ := hQ835
          have N835 := Fr.app N829 N835q
          have z835 := K835.1
          have KK835 : Keep h0 T835.heap [] := KK830.trans K835 (allS (Or.inr (by omega)) all0)
          have hq836 : Q5n31 Z G1 G2 s1 ta kt x0 x1 x2 y0 y1 y2 z0 z1 z2 h0 n0 (some (.ref b830)) T835.heap _ := ⟨b830, rfl, N835, KK835, Or.inr ⟨by rw [← (show nar .char (own_low (own_u y0 z0)) = own_low x0 by rw [he0]; exact own_nch (own_lowCh hx0)), ← (show nar .char (own_low (own_u y1 z1)) = own_low x1 by rw [he1]; exact own_nch (own_lowCh hx1)), ← (show nar .char (own_u y2 z2) = own_low x2 by rw [show nar .char (own_u y2 z2) = (own_u y2 z2) from own_nn _, ← he2]; exact hc23bb)]; exact G835_0, fun q => hc23 (by rw [he0]; exact q.1)⟩⟩
          exact own_retR X835 hx hlk (w := (.ref b830)) rfl hrt rfl (hb hby d5_64) rfl hq836 (by decide) (by decide)
        · refine own_kN 26 X828 hx (hb hby d5_23) rfl (feq hc23bb).1 rfl ?_
          refine own_ru 27 [(.ref ob_779)] X828 hx hby e5_26_1 rfl rfl ?_
          refine own_st 35 [] (fun t k => XS.ifnonnullYes X828.here hx rfl (pc0 := 27) (pc' := 35) rfl (hb hby d5_27) rfl (by decide) (by decide) k) ?_
          refine own_ru 38 [(.int (own_u y2 z2)), (.int (2 : Int32)), (.ref ob_779)] X828 hx hby e5_35_3 rfl rfl ?_
          refine own_cS X828 hx hZ hown (wd75 hw) (wd76 hw) (by decide) (wd77 hw) (wd29 hw) (rm16 l Z a0 hw [] (own_u y2 z2) h820 n0 (by omega) (by rw [he2]; exact hx2)) e828  [(.int (own_u y2 z2))] [(.int (2 : Int32)), (.ref ob_779)] 41 2 (hb hby d5_38) rfl (by rw [hml]; rfl) rfl rfl (lenOf pd_22 rfl) rfl (by decide) fun v837 T837 Lc837 X837 hQ837 => ?_
          obtain ⟨rfl, N837q, e837⟩ := hQ837
          have N837 := Fr.app N828 N837q
          obtain ⟨cl838, Ar838, q838, S838, N838z, Hs838, G838⟩ := id V820
          have hin838 : ¬ ((2 : Int32) < 0 ∨ cl838.slots.size ≤ ((2 : Int32)).toNatClampNeg) := inb_of S838 ⟨by decide, by decide⟩
          obtain ⟨T839, h839, X839, e839, W839, st839⟩ := stC X837 hx hZ e837 Ar838 (j := (2 : Int32)) hin838 (g := (mkF m 41 #[.val (.ref s1), .val (.ref ob_779), .val (.int (2 : Int32)), .val (.int (own_u y2 z2))] [(.int (own_low (own_u y2 z2))), (.int (2 : Int32)), (.ref ob_779)])) rfl rfl (hb hby d5_41)
          have V839 : Arv Z h839 ob_779 kc_779 .char (3 : Int32) [(.int (nar .char (own_low (own_u y0 z0)))), (.int (nar .char (own_low (own_u y1 z1)))), (.int (nar .char (own_low (own_u y2 z2))))] (.int (0 : Int32)) := Arv.set Ar838 q838 S838 N838z Hs838 G838 (fits_nar_char _) W839 2 rfl (Nat.le_of_ble_eq_true rfl)
          have z839 := W839.size
          have KK839 : Keep h0 h839 [] := KK820.wr W839 (Or.inr (by omega))
          have N839 := Fr.snoc X839 N837 (by omega)
          refine own_sT 42 [] st839 ?_
          refine own_rl 45 #[.val (.ref s1), .val (.ref ob_779), .val (.int (3 : Int32)), .val (.int (own_u y2 z2))] [] X839 hx hby e5_42_1 rfl rfl ?_
          refine own_go 4 X839 hx (hb hby d5_45) (by decide) (by decide) ?_
          refine own_ru 6 [(.ref s1), (.int (3 : Int32))] X839 hx hby e5_4_2 rfl rfl ?_
          have f840 := (f821.wr W839 (by omega))
          have f841 := (Exa.wr W839 f822)
          have f842 := (Fld.other W839 f823 (Or.inl (own_ne (by omega))))
          have f843 := (Fld.other W839 f824 (Or.inl (own_ne (by omega))))
          have f844 := (f825.other W839 (own_ne (by omega)))
          refine own_cV X839 hx hZ hown (wd31 hw) (wd32 hw) (notFace_of_selects (args := #[]) (mvT hZ (wd34 hw))) (wd34 hw) (wd33 hw) (by decide) (wd35 hw) (wd8 hw) (rm6d1 l Z a0 hw [] G1 G2 s1 ta kt (6 : Int32) [(.int y0), (.int z0), (.int y1), (.int z1), (.int y2), (.int z2)] h839 n0 (by omega) f840 A f841 f842 f843 f844) e839 f841 [] [(.int (3 : Int32))] 9 1 (hb hby d5_6) rfl (by rw [hml]; rfl) rfl rfl (lenOf pd_20 rfl) rfl (by decide) fun v845 T845 Lc845 X845 hQ845 => ?_
          obtain ⟨rfl, N845q, e845⟩ := hQ845
          have N845 := Fr.app N839 N845q
          refine own_kY 48 X845 hx (hb hby d5_9) rfl (flt (by decide : ¬ ((3 : Int32) < (3 : Int32)))).2.1 (by decide) (by decide) ?_
          refine own_ru 49 [(.ref ob_779)] X845 hx hby e5_48_1 rfl rfl ?_
          refine own_st 56 [] (fun t k => XS.ifnonnullYes X845.here hx rfl (pc0 := 49) (pc' := 56) rfl (hb hby d5_49) rfl (by decide) (by decide) k) ?_
          refine own_nO X845 hx hZ hown (wd96 hw) (wd7 hw) (wd8 hw) e845 59 (hb hby d5_56) rfl (by decide) (by decide) fun T846 h846 b846 g846 X846 e846 E846 A846 D846 UN846 => ?_
          have ll846 : @LT.lt Nat _ b846 (Array.size h846) := A846.lt
          have KK846 : Keep h0 h846 [] := KK839.ext E846
          have z846 := E846.1
          have F847 : fl2 Z h846 b846 .null := D846 (Or.inr (wd21 hw)) (ty := (.array .byte)) (by decide)
          have F848 : fl0 Z h846 b846 (.int (0 : Int32)) := D846 (Or.inr (wd22 hw)) (ty := .byte) (by decide)
          refine own_ru 61 [(.ref ob_779), (.ref b846), (.ref b846)] X846 hx hby e5_59_2 rfl rfl ?_
          have f849 := (f840.ext E846)
          have f850 := (V839.ext E846)
          refine own_cN X846 hx hZ hown rfl (wd97 hw) (wd10 hw) (by decide) (wd11 hw) (wd8 hw) (rm2n3 l Z a0 hw [] G1 G2 b846 ob_779 kc_779 (nar .char (own_low (own_u y0 z0))) (nar .char (own_low (own_u y1 z1))) (nar .char (own_low (own_u y2 z2))) h846 n0 (by omega) f849 A A846 F847 F848 f850 (by omega) (own_chn _) (own_chn _) (own_chn _) (by first | assumption | decide | omega)) e846  [(.ref ob_779)] [(.ref b846)] 64 1 (hb hby d5_61) rfl (by rw [hml]; rfl) rfl rfl (lenOf pd_24 rfl) rfl (by decide) fun v851 T851 Lc851 X851 hQ851 => ?_
          obtain ⟨rfl, N851q, K851, G851_0⟩ := hQ851
          have N851 := Fr.app N845 N851q
          have z851 := K851.1
          have KK851 : Keep h0 T851.heap [] := KK846.trans K851 (allS (Or.inr (by omega)) all0)
          have hq852 : Q5n31 Z G1 G2 s1 ta kt x0 x1 x2 y0 y1 y2 z0 z1 z2 h0 n0 (some (.ref b846)) T851.heap _ := ⟨b846, rfl, N851, KK851, Or.inr ⟨by rw [← (show nar .char (own_low (own_u y0 z0)) = own_low x0 by rw [he0]; exact own_nch (own_lowCh hx0)), ← (show nar .char (own_low (own_u y1 z1)) = own_low x1 by rw [he1]; exact own_nch (own_lowCh hx1)), ← (show nar .char (own_low (own_u y2 z2)) = own_low x2 by rw [he2]; exact own_nch (own_lowCh hx2))]; exact G851_0, fun q => hc23 (by rw [he0]; exact q.1)⟩⟩
          exact own_retR X851 hx hlk (w := (.ref b846)) rfl hrt rfl (hb hby d5_64) rfl hq852 (by decide) (by decide)
theorem e0_0_3 : own_dec code 0 [(.iload_n 0, 1), (.iconst 3, 1), (.iand, 1)] = true := by decide +kernel
theorem e0_3_2 : own_dec code 3 [(.istore 4, 2), (.iload_n 1, 1)] = true := by decide +kernel
theorem e0_9_2 : own_dec code 9 [(.istore 5, 2), (.iload_n 2, 1)] = true := by decide +kernel
theorem e0_15_2 : own_dec code 15 [(.istore 6, 2), (.iload_n 3, 1)] = true := by decide +kernel
theorem e0_21_1 : own_dec code 21 [(.istore 7, 2)] = true := by decide +kernel
theorem e0_23_1 : own_dec code 23 [(.iload 4, 2)] = true := by decide +kernel
theorem e0_28_1 : own_dec code 28 [(.iconst 0, 1)] = true := by decide +kernel
theorem e0_31_1 : own_dec code 31 [(.astore 8, 2)] = true := by decide +kernel
theorem e0_102_2 : own_dec code 102 [(.dup, 1), (.aload 8, 2)] = true := by decide +kernel
theorem e0_108_2 : own_dec code 108 [(.astore 9, 2), (.aload 9, 2)] = true := by decide +kernel
theorem e0_115_2 : own_dec code 115 [(.astore 10, 2), (.aload 10, 2)] = true := by decide +kernel
theorem e0_122_1 : own_dec code 122 [(.aload 10, 2)] = true := by decide +kernel
theorem e0_127_1 : own_dec code 127 [(.iload 4, 2)] = true := by decide +kernel
theorem e0_134_2 : own_dec code 134 [(.iload 4, 2), (.iconst 1, 1)] = true := by decide +kernel
theorem e0_156_2 : own_dec code 156 [(.iload 4, 2), (.iconst 2, 1)] = true := by decide +kernel
theorem e0_178_2 : own_dec code 178 [(.iload 4, 2), (.iconst 3, 1)] = true := by decide +kernel
theorem e0_200_2 : own_dec code 200 [(.iload 4, 2), (.iconst 1, 1)] = true := by decide +kernel
theorem e0_214_2 : own_dec code 214 [(.iload 4, 2), (.iconst 2, 1)] = true := by decide +kernel
theorem e0_228_2 : own_dec code 228 [(.iload 4, 2), (.iconst 3, 1)] = true := by decide +kernel
theorem e0_246_3 : own_dec code 246 [(.iconst 0, 1), (.istore 11, 2), (.iload 11, 2)] = true := by decide +kernel
theorem e0_254_2 : own_dec code 254 [(.aload 10, 2), (.aload 9, 2)] = true := by decide +kernel
theorem e0_263_1 : own_dec code 263 [(.iconst 1, 1)] = true := by decide +kernel
theorem e0_36_2 : own_dec code 36 [(.iload 4, 2), (.iconst 1, 1)] = true := by decide +kernel
theorem e0_42_1 : own_dec code 42 [(.iconst 1, 1)] = true := by decide +kernel
theorem e0_45_3 : own_dec code 45 [(.dup, 1), (.iconst 0, 1), (.iload 5, 2)] = true := by decide +kernel
theorem e0_50_1 : own_dec code 50 [(.astore 8, 2)] = true := by decide +kernel
theorem e0_140_2 : own_dec code 140 [(.aload 10, 2), (.iconst 0, 1)] = true := by decide +kernel
theorem e0_146_1 : own_dec code 146 [(.iload 5, 2)] = true := by decide +kernel
theorem e0_206_1 : own_dec code 206 [(.iload 5, 2)] = true := by decide +kernel
theorem e0_242_1 : own_dec code 242 [(.iconst 1, 1)] = true := by decide +kernel
theorem e0_247_2 : own_dec code 247 [(.istore 11, 2), (.iload 11, 2)] = true := by decide +kernel
theorem e0_55_2 : own_dec code 55 [(.iload 4, 2), (.iconst 2, 1)] = true := by decide +kernel
theorem e0_61_1 : own_dec code 61 [(.iconst 2, 1)] = true := by decide +kernel
theorem e0_64_3 : own_dec code 64 [(.dup, 1), (.iconst 0, 1), (.iload 5, 2)] = true := by decide +kernel
theorem e0_69_3 : own_dec code 69 [(.dup, 1), (.iconst 1, 1), (.iload 6, 2)] = true := by decide +kernel
theorem e0_74_1 : own_dec code 74 [(.astore 8, 2)] = true := by decide +kernel
theorem e0_162_2 : own_dec code 162 [(.aload 10, 2), (.iconst 1, 1)] = true := by decide +kernel
theorem e0_168_1 : own_dec code 168 [(.iload 6, 2)] = true := by decide +kernel
theorem e0_220_1 : own_dec code 220 [(.iload 6, 2)] = true := by decide +kernel
theorem e0_79_1 : own_dec code 79 [(.iconst 3, 1)] = true := by decide +kernel
theorem e0_82_3 : own_dec code 82 [(.dup, 1), (.iconst 0, 1), (.iload 5, 2)] = true := by decide +kernel
theorem e0_87_3 : own_dec code 87 [(.dup, 1), (.iconst 1, 1), (.iload 6, 2)] = true := by decide +kernel
theorem e0_92_3 : own_dec code 92 [(.dup, 1), (.iconst 2, 1), (.iload 7, 2)] = true := by decide +kernel
theorem e0_97_1 : own_dec code 97 [(.astore 8, 2)] = true := by decide +kernel
theorem e0_184_2 : own_dec code 184 [(.aload 10, 2), (.iconst 2, 1)] = true := by decide +kernel
theorem e0_190_1 : own_dec code 190 [(.iload 7, 2)] = true := by decide +kernel
theorem e0_234_1 : own_dec code 234 [(.iload 7, 2)] = true := by decide +kernel
theorem pd_25 : parseMethodDescriptor "(Ljava/lang/String;)Ljava/lang/String;" = some ⟨[(.object "java/lang/String")], some (.object "java/lang/String")⟩ := by decide +kernel
theorem pd_26 : parseMethodDescriptor "(C)Z" = some ⟨[.char], some .boolean⟩ := by decide +kernel
def Q0 (Z : State) (G1 : Int32) (G2 : Value) (i0 : Int32) (i1 : Int32) (i2 : Int32) (i3 : Int32) (h0 : Heap) (n0 : Nat) (v : Option Value) (h : Heap) (L : List Loc) : Prop := v = some (.int (1 : Int32)) ∧ Fr n0 L
set_option maxRecDepth 65536 in
set_option maxHeartbeats 40000000 in
theorem rm0 (l : Launch) (Z : State) (a0 : Array Value) (hw : OW a0 Z) (ws : List Jvm.Cond) (G1 : Int32) (G2 : Value) (i0 : Int32) (i1 : Int32) (i2 : Int32) (i3 : Int32) (h0 : Heap) (n0 : Nat) (Z0 : n0 ≤ h0.size) (OLD : Old Z n0 h0) (A : Amb Z G1 G2) :
    own_MetW l x code maxLocals ret ws room_1 #[(.int i0), (.int i1), (.int i2), (.int i3)] Z h0 (Q0 Z G1 G2 i0 i1 i2 i3 h0 n0) 32 1216 := by
  refine own_bodyW (plainFor_of_name pn_0) (fun m => by first | (simp [entryFrame, mkF, argsToLocals, Value.category, maxLocals]; done) | rfl) (Ls := #[.val (.int i0), .val (.int i1), .val (.int i2), .val (.int i3), .unset, .unset, .unset, .unset, .unset, .unset, .unset, .unset]) fun p e s m below meth c s₁ X0 hx hby hml hZ e0 hown hnm hlk hrt hsh hIB => ?_
  have N0 := Fr.nil n0
  refine own_ru 3 [(.int (i0 &&& (3 : Int32)))] X0 hx hby e0_0_3 rfl rfl ?_
  obtain ⟨v3, hv3⟩ : ∃ z : Int32, z = (i0 &&& (3 : Int32)) := ⟨_, rfl⟩
  rw [← hv3]
  refine own_rl 6 #[.val (.int i0), .val (.int i1), .val (.int i2), .val (.int i3), .val (.int v3), .unset, .unset, .unset, .unset, .unset, .unset, .unset] [(.int i1)] X0 hx hby e0_3_2 rfl rfl ?_
  refine own_cS X0 hx hZ hown (wd0 hw) (wd1 hw) (by decide) (wd3 hw) (wd2 hw) (rm1 l Z a0 hw [] i1 h0 n0 (by omega) ) e0  [(.int i1)] [] 9 0 (hb hby at_6) rfl (by rw [hml]; rfl) rfl rfl (lenOf pd_21 rfl) rfl (by decide) fun v853 T853 Lc853 X853 hQ853 => ?_
  obtain ⟨r_853, rfl, N853q, e853, U853_0⟩ := hQ853
  have N853 := Fr.app N0 N853q
  refine own_rl 12 #[.val (.int i0), .val (.int i1), .val (.int i2), .val (.int i3), .val (.int v3), .val (.int r_853), .unset, .unset, .unset, .unset, .unset, .unset] [(.int i2)] X853 hx hby e0_9_2 rfl rfl ?_
  refine own_cS X853 hx hZ hown (wd0 hw) (wd1 hw) (by decide) (wd3 hw) (wd2 hw) (rm1 l Z a0 hw [] i2 h0 n0 (by omega) ) e853  [(.int i2)] [] 15 0 (hb hby at_12) rfl (by rw [hml]; rfl) rfl rfl (lenOf pd_21 rfl) rfl (by decide) fun v854 T854 Lc854 X854 hQ854 => ?_
  obtain ⟨r_854, rfl, N854q, e854, U854_0⟩ := hQ854
  have N854 := Fr.app N853 N854q
  refine own_rl 18 #[.val (.int i0), .val (.int i1), .val (.int i2), .val (.int i3), .val (.int v3), .val (.int r_853), .val (.int r_854), .unset, .unset, .unset, .unset, .unset] [(.int i3)] X854 hx hby e0_15_2 rfl rfl ?_
  refine own_cS X854 hx hZ hown (wd0 hw) (wd1 hw) (by decide) (wd3 hw) (wd2 hw) (rm1 l Z a0 hw [] i3 h0 n0 (by omega) ) e854  [(.int i3)] [] 21 0 (hb hby at_18) rfl (by rw [hml]; rfl) rfl rfl (lenOf pd_21 rfl) rfl (by decide) fun v855 T855 Lc855 X855 hQ855 => ?_
  obtain ⟨r_855, rfl, N855q, e855, U855_0⟩ := hQ855
  have N855 := Fr.app N854 N855q
  refine own_rl 23 #[.val (.int i0), .val (.int i1), .val (.int i2), .val (.int i3), .val (.int v3), .val (.int r_853), .val (.int r_854), .val (.int r_855), .unset, .unset, .unset, .unset] [] X855 hx hby e0_21_1 rfl rfl ?_
  rcases own_l4 hv3 with hf | hf | hf | hf <;> subst hf
  · as_aux_lemma =>
      refine own_rl 25 #[.val (.int i0), .val (.int i1), .val (.int i2), .val (.int i3), .val (.int (0 : Int32)), .val (.int r_853), .val (.int r_854), .val (.int r_855), .unset, .unset, .unset, .unset] [(.int (0 : Int32))] X855 hx hby e0_23_1 rfl rfl ?_
      refine own_iN 28 X855 hx (hb hby at_25) rfl ((if0 _ _).trans (teq (by decide : ((0 : Int32) = (0 : Int32)))).2) rfl ?_
      refine own_ru 29 [(.int (0 : Int32))] X855 hx hby e0_28_1 rfl rfl ?_
      refine own_nP (aty := .char) X855 hx hZ (wd5 hw) e855 31 (hb hby at_29) rfl rfl (by decide) (cap := 0) (by decide) (by decide) (by decide) (by decide) (ad := "[C") rfl fun T856 h856 k856 b856 g856 X856 e856 E856 A856 B856 => ?_
      have ll856 : @LT.lt Nat _ b856 (Array.size h856) := A856.lt
      have z856 := E856.1
      have V856 : Arv Z h856 b856 k856 .char (0 : Int32) [] (.int (0 : Int32)) := (Arv.new A856 (by decide)).pad (pad_rep [] (.int (0 : Int32)) 0)
      refine own_rl 33 #[.val (.int i0), .val (.int i1), .val (.int i2), .val (.int i3), .val (.int (0 : Int32)), .val (.int r_853), .val (.int r_854), .val (.int r_855), .val (.ref b856), .unset, .unset, .unset] [] X856 hx hby e0_31_1 rfl rfl ?_
      refine own_go 99 X856 hx (hb hby at_33) (by decide) (by decide) ?_
      refine own_nO X856 hx hZ hown (wd6 hw) (wd7 hw) (wd8 hw) e856 102 (hb hby at_99) rfl (by decide) (by decide) fun T857 h857 b857 g857 X857 e857 E857 A857 D857 UN857 => ?_
      have ll857 : @LT.lt Nat _ b857 (Array.size h857) := A857.lt
      have z857 := E857.1
      have F858 : fl2 Z h857 b857 .null := D857 (Or.inr (wd21 hw)) (ty := (.array .byte)) (by decide)
      have F859 : fl0 Z h857 b857 (.int (0 : Int32)) := D857 (Or.inr (wd22 hw)) (ty := .byte) (by decide)
      refine own_ru 105 [(.ref b856), (.ref b857), (.ref b857)] X857 hx hby e0_102_2 rfl rfl ?_
      have f860 := ((OLD.ext E856).ext E857)
      have f861 := (V856.ext E857)
      refine own_cNW X857 hx hZ hown rfl (wd9 hw) (wd10 hw) (by decide) (wd11 hw) (wd8 hw) hIB (rm2z l Z a0 hw [] G1 G2 b857 b856 k856 h857 n0 (by omega) f860 A A857 F858 F859 f861 (by omega)) e857 [(.ref b856)] [(.ref b857)] 108 1 (hb hby at_105) rfl (by rw [hml]; rfl) rfl rfl (lenOf pd_24 rfl) rfl (by decide) fun v862 T862 Lc862 X862 hSi hZ hown hQ862 => ?_
      obtain ⟨tb_862, kb_862, rfl, N862q, K862, G862_0, G862_1, G862_2, G862_3⟩ := hQ862
      have N862 := Fr.app N855 N862q
      have z862 := K862.1
      have lt862_0 : @LT.lt Nat _ b857 (Array.size T862.heap) := G862_0.lt
      have lt862_3 : @LT.lt Nat _ tb_862 (Array.size T862.heap) := G862_3.lt
      refine own_rl 112 #[.val (.int i0), .val (.int i1), .val (.int i2), .val (.int i3), .val (.int (0 : Int32)), .val (.int r_853), .val (.int r_854), .val (.int r_855), .val (.ref b856), .val (.ref b857), .unset, .unset] [(.ref b857)] X862 hx hby e0_108_2 rfl rfl ?_
      have f863 := (f860.keep K862 (allS (by omega) all0))
      refine own_cS X862 hx hZ hown (wd27 hw) (wd28 hw) (by decide) (wd30 hw) (wd29 hw) (rm5z l Z a0 hw [] G1 G2 b857 tb_862 kb_862 T862.heap n0 (by omega) f863 A G862_0 G862_1 G862_2 G862_3) rfl  [(.ref b857)] [] 115 0 (hb hby at_112) rfl (by rw [hml]; rfl) rfl rfl (lenOf pd_25 rfl) rfl (by decide) fun v864 T864 Lc864 X864 hQ864 => ?_
      obtain ⟨rfl, N864q, e864⟩ := hQ864
      have N864 := Fr.app N862 N864q
      refine own_rl 119 #[.val (.int i0), .val (.int i1), .val (.int i2), .val (.int i3), .val (.int (0 : Int32)), .val (.int r_853), .val (.int r_854), .val (.int r_855), .val (.ref b856), .val (.ref b857), .val (.ref b857), .unset] [(.ref b857)] X864 hx hby e0_115_2 rfl rfl ?_
      refine own_st 122 [] (fun t k => XS.ifnullNo X864.here hx rfl (hb hby at_119) rfl k) ?_
      refine own_ru 124 [(.ref b857)] X864 hx hby e0_122_1 rfl rfl ?_
      refine own_cV X864 hx hZ hown (wd42 hw) (wd32 hw) (notFace_of_selects (args := #[]) (mvT hZ (wd34 hw))) (wd34 hw) (wd33 hw) (by decide) (wd35 hw) (wd8 hw) (rm6d0 l Z a0 hw [] G1 G2 b857 tb_862 kb_862 (0 : Int32) [] T862.heap n0 (by omega) f863 A G862_0 G862_1 G862_2 G862_3) e864 G862_0 [] [] 127 0 (hb hby at_124) rfl (by rw [hml]; rfl) rfl rfl (lenOf pd_20 rfl) rfl (by decide) fun v865 T865 Lc865 X865 hQ865 => ?_
      obtain ⟨rfl, N865q, e865⟩ := hQ865
      have N865 := Fr.app N864 N865q
      refine own_ru 129 [(.int (0 : Int32)), (.int (0 : Int32))] X865 hx hby e0_127_1 rfl rfl ?_
      refine own_kY 134 X865 hx (hb hby at_129) rfl (teq (by decide : ((0 : Int32) = (0 : Int32)))).1 (by decide) (by decide) ?_
      refine own_ru 137 [(.int (1 : Int32)), (.int (0 : Int32))] X865 hx hby e0_134_2 rfl rfl ?_
      refine own_kY 156 X865 hx (hb hby at_137) rfl (tlt (by decide : ((0 : Int32) < (1 : Int32)))).1 (by decide) (by decide) ?_
      refine own_ru 159 [(.int (2 : Int32)), (.int (0 : Int32))] X865 hx hby e0_156_2 rfl rfl ?_
      refine own_kY 178 X865 hx (hb hby at_159) rfl (tlt (by decide : ((0 : Int32) < (2 : Int32)))).1 (by decide) (by decide) ?_
      refine own_ru 181 [(.int (3 : Int32)), (.int (0 : Int32))] X865 hx hby e0_178_2 rfl rfl ?_
      refine own_kY 200 X865 hx (hb hby at_181) rfl (tlt (by decide : ((0 : Int32) < (3 : Int32)))).1 (by decide) (by decide) ?_
      refine own_ru 203 [(.int (1 : Int32)), (.int (0 : Int32))] X865 hx hby e0_200_2 rfl rfl ?_
      refine own_kY 214 X865 hx (hb hby at_203) rfl (tlt (by decide : ((0 : Int32) < (1 : Int32)))).1 (by decide) (by decide) ?_
      refine own_ru 217 [(.int (2 : Int32)), (.int (0 : Int32))] X865 hx hby e0_214_2 rfl rfl ?_
      refine own_kY 228 X865 hx (hb hby at_217) rfl (tlt (by decide : ((0 : Int32) < (2 : Int32)))).1 (by decide) (by decide) ?_
      refine own_ru 231 [(.int (3 : Int32)), (.int (0 : Int32))] X865 hx hby e0_228_2 rfl rfl ?_
      refine own_kY 246 X865 hx (hb hby at_231) rfl (tlt (by decide : ((0 : Int32) < (3 : Int32)))).1 (by decide) (by decide) ?_
      refine own_rl 251 #[.val (.int i0), .val (.int i1), .val (.int i2), .val (.int i3), .val (.int (0 : Int32)), .val (.int r_853), .val (.int r_854), .val (.int r_855), .val (.ref b856), .val (.ref b857), .val (.ref b857), .val (.int (0 : Int32))] [(.int (0 : Int32))] X865 hx hby e0_246_3 rfl rfl ?_
      refine own_iN 254 X865 hx (hb hby at_251) rfl ((if0 _ _).trans (teq (by decide : ((0 : Int32) = (0 : Int32)))).2) rfl ?_
      refine own_ru 258 [(.ref b857), (.ref b857)] X865 hx hby e0_254_2 rfl rfl ?_
      refine own_st 263 [] (fun t k => Jvm.RoadKit.acmp (g := (mkF m 258 #[.val (.int i0), .val (.int i1), .val (.int i2), .val (.int i3), .val (.int (0 : Int32)), .val (.int r_853), .val (.int r_854), .val (.int r_855), .val (.ref b856), .val (.ref b857), .val (.ref b857), .val (.int (0 : Int32))] [(.ref b857), (.ref b857)])) X865 hx rfl rfl rfl (pc0 := 258) (pc' := 263) (same := true) rfl (hb hby at_258) rfl (decide_eq_true rfl) (by decide) (by decide) k) ?_
      refine own_ru 264 [(.int (1 : Int32))] X865 hx hby e0_263_1 rfl rfl ?_
      have hq866 : Q0 Z G1 G2 i0 i1 i2 i3 h0 n0 (some (.int (nar .boolean (1 : Int32)))) T862.heap _ := ⟨rfl, N865⟩
      exact own_retNW X865 hx hlk hSi (by rw [e865]; omega) (t := .boolean) hrt (by simp) (hb hby at_264) e865 hq866 (by decide) (by decide)
  · as_aux_lemma =>
      refine own_Fin.mono own_narrow ?_
      refine own_rl 25 #[.val (.int i0), .val (.int i1), .val (.int i2), .val (.int i3), .val (.int (1 : Int32)), .val (.int r_853), .val (.int r_854), .val (.int r_855), .unset, .unset, .unset, .unset] [(.int (1 : Int32))] X855 hx hby e0_23_1 rfl rfl ?_
      refine own_iY 36 X855 hx (hb hby at_25) rfl ((if0 _ _).trans (feq (by decide : ¬ ((1 : Int32) = (0 : Int32)))).2) (by decide) (by decide) ?_
      refine own_ru 39 [(.int (1 : Int32)), (.int (1 : Int32))] X855 hx hby e0_36_2 rfl rfl ?_
      refine own_kN 42 X855 hx (hb hby at_39) rfl (teq (by decide : ((1 : Int32) = (1 : Int32)))).2 rfl ?_
      refine own_ru 43 [(.int (1 : Int32))] X855 hx hby e0_42_1 rfl rfl ?_
      refine own_nP (aty := .char) X855 hx hZ (wd5 hw) e855 45 (hb hby at_43) rfl rfl (by decide) (cap := 1) (by decide) (by decide) (by decide) (by decide) (ad := "[C") rfl fun T867 h867 k867 b867 g867 X867 e867 E867 A867 B867 => ?_
      have ll867 : @LT.lt Nat _ b867 (Array.size h867) := A867.lt
      have z867 := E867.1
      have V867 : Arv Z h867 b867 k867 .char (1 : Int32) [(.int (0 : Int32))] (.int (0 : Int32)) := (Arv.new A867 (by decide)).pad (pad_rep [] (.int (0 : Int32)) 1)
      refine own_ru 49 [(.int r_853), (.int (0 : Int32)), (.ref b867), (.ref b867)] X867 hx hby e0_45_3 rfl rfl ?_
      obtain ⟨cl868, Ar868, q868, S868, N868z, Hs868, G868⟩ := id V867
      have hin868 : ¬ ((0 : Int32) < 0 ∨ cl868.slots.size ≤ ((0 : Int32)).toNatClampNeg) := inb_of S868 ⟨by decide, by decide⟩
      obtain ⟨T869, h869, X869, e869, W869, st869⟩ := stC X867 hx hZ e867 Ar868 (j := (0 : Int32)) hin868 (g := (mkF m 49 #[.val (.int i0), .val (.int i1), .val (.int i2), .val (.int i3), .val (.int (1 : Int32)), .val (.int r_853), .val (.int r_854), .val (.int r_855), .unset, .unset, .unset, .unset] [(.int r_853), (.int (0 : Int32)), (.ref b867), (.ref b867)])) rfl rfl (hb hby at_49)
      have V869 : Arv Z h869 b867 k867 .char (1 : Int32) [(.int (nar .char r_853))] (.int (0 : Int32)) := Arv.set Ar868 q868 S868 N868z Hs868 G868 (fits_nar_char _) W869 0 rfl (Nat.le_of_ble_eq_true rfl)
      have z869 := W869.size
      have N869 := Fr.snoc X869 N855 (by omega)
      refine own_sT 50 [(.ref b867)] st869 ?_
      refine own_rl 52 #[.val (.int i0), .val (.int i1), .val (.int i2), .val (.int i3), .val (.int (1 : Int32)), .val (.int r_853), .val (.int r_854), .val (.int r_855), .val (.ref b867), .unset, .unset, .unset] [] X869 hx hby e0_50_1 rfl rfl ?_
      refine own_go 99 X869 hx (hb hby at_52) (by decide) (by decide) ?_
      refine own_nO X869 hx hZ hown (wd6 hw) (wd7 hw) (wd8 hw) e869 102 (hb hby at_99) rfl (by decide) (by decide) fun T870 h870 b870 g870 X870 e870 E870 A870 D870 UN870 => ?_
      have ll870 : @LT.lt Nat _ b870 (Array.size h870) := A870.lt
      have z870 := E870.1
      have F871 : fl2 Z h870 b870 .null := D870 (Or.inr (wd21 hw)) (ty := (.array .byte)) (by decide)
      have F872 : fl0 Z h870 b870 (.int (0 : Int32)) := D870 (Or.inr (wd22 hw)) (ty := .byte) (by decide)
      refine own_ru 105 [(.ref b867), (.ref b870), (.ref b870)] X870 hx hby e0_102_2 rfl rfl ?_
      have f873 := (((OLD.ext E867).wr W869 (by omega)).ext E870)
      have f874 := (V869.ext E870)
      refine own_cN X870 hx hZ hown rfl (wd9 hw) (wd10 hw) (by decide) (wd11 hw) (wd8 hw) (rm2n1 l Z a0 hw [] G1 G2 b870 b867 k867 (nar .char r_853) h870 n0 (by omega) f873 A A870 F871 F872 f874 (by omega) (own_chn _) (by first | assumption | decide | omega)) e870  [(.ref b867)] [(.ref b870)] 108 1 (hb hby at_105) rfl (by rw [hml]; rfl) rfl rfl (lenOf pd_24 rfl) rfl (by decide) fun v875 T875 Lc875 X875 hQ875 => ?_
      obtain ⟨rfl, N875q, K875, G875_0⟩ := hQ875
      have N875 := Fr.app N869 N875q
      have z875 := K875.1
      refine own_rl 112 #[.val (.int i0), .val (.int i1), .val (.int i2), .val (.int i3), .val (.int (1 : Int32)), .val (.int r_853), .val (.int r_854), .val (.int r_855), .val (.ref b867), .val (.ref b870), .unset, .unset] [(.ref b870)] X875 hx hby e0_108_2 rfl rfl ?_
      rcases G875_0 with ⟨ata, akt, ay0, af0, af1, af2, af3, ae0⟩ | ⟨ata, akt, ay0, az0, af0, af1, af2, af3, ae0⟩
      · have alt : @LT.lt Nat _ ata (Array.size T875.heap) := af3.lt
        have als : @LT.lt Nat _ b870 (Array.size T875.heap) := af0.lt
        have f876 := (f873.keep K875 (allS (by omega) all0))
        refine own_cS X875 hx hZ hown (wd27 hw) (wd28 hw) (by decide) (wd30 hw) (wd29 hw) (rm5n10 l Z a0 hw [] G1 G2 b870 ata akt (nar .char r_853) ay0 T875.heap n0 (by omega) f876 A af0 af1 af2 af3 ae0 (own_chn _)) rfl  [(.ref b870)] [] 115 0 (hb hby at_112) rfl (by rw [hml]; rfl) rfl rfl (lenOf pd_25 rfl) rfl (by decide) fun v877 T877 Lc877 X877 hQ877 => ?_
        obtain ⟨so_877, rfl, N877q, K877, G877_0⟩ := hQ877
        have N877 := Fr.app N875 N877q
        have z877 := K877.1
        rcases G877_0 with ⟨hso, hl0⟩ | ⟨hstr, hneg⟩
        · rw [hso]
          refine own_rl 119 #[.val (.int i0), .val (.int i1), .val (.int i2), .val (.int i3), .val (.int (1 : Int32)), .val (.int r_853), .val (.int r_854), .val (.int r_855), .val (.ref b867), .val (.ref b870), .val (.ref b870), .unset] [(.ref b870)] X877 hx hby e0_115_2 rfl rfl ?_
          refine own_st 122 [] (fun t k => XS.ifnullNo X877.here hx rfl (hb hby at_119) rfl k) ?_
          refine own_ru 124 [(.ref b870)] X877 hx hby e0_122_1 rfl rfl ?_
          have f878 := (f876.keep K877 all0)
          have f879 := (Exa.keep af0 K877)
          have f880 := (af1.keep K877 nin0)
          have f881 := (af2.keep K877 nin0)
          have f882 := (af3.keep K877 nin0)
          refine own_cV X877 hx hZ hown (wd42 hw) (wd32 hw) (notFace_of_selects (args := #[]) (mvT hZ (wd34 hw))) (wd34 hw) (wd33 hw) (by decide) (wd35 hw) (wd8 hw) (rm6d0 l Z a0 hw [] G1 G2 b870 ata akt (1 : Int32) [(.int ay0)] T877.heap n0 (by omega) f878 A f879 f880 f881 f882) rfl f879 [] [] 127 0 (hb hby at_124) rfl (by rw [hml]; rfl) rfl rfl (lenOf pd_20 rfl) rfl (by decide) fun v883 T883 Lc883 X883 hQ883 => ?_
          obtain ⟨rfl, N883q, e883⟩ := hQ883
          have N883 := Fr.app N877 N883q
          refine own_ru 129 [(.int (1 : Int32)), (.int (1 : Int32))] X883 hx hby e0_127_1 rfl rfl ?_
          refine own_kY 134 X883 hx (hb hby at_129) rfl (teq (by decide : ((1 : Int32) = (1 : Int32)))).1 (by decide) (by decide) ?_
          refine own_ru 137 [(.int (1 : Int32)), (.int (1 : Int32))] X883 hx hby e0_134_2 rfl rfl ?_
          refine own_kN 140 X883 hx (hb hby at_137) rfl (flt (by decide : ¬ ((1 : Int32) < (1 : Int32)))).1 rfl ?_
          refine own_ru 143 [(.int (0 : Int32)), (.ref b870)] X883 hx hby e0_140_2 rfl rfl ?_
          refine own_cV X883 hx hZ hown (wd78 hw) (wd54 hw) (notFace_of_selects (args := #[]) (mvT hZ (wd56 hw))) (wd56 hw) (wd55 hw) (by decide) (wd57 hw) (wd8 hw) (rm11l l Z a0 hw [] G1 G2 b870 (0 : Int32) ata akt (1 : Int32) [(.int ay0)] ay0 T877.heap n0 (by omega) f878 A f879 f880 f881 f882 (by decide) (by decide) rfl) e883 f879 [(.int (0 : Int32))] [] 146 0 (hb hby at_143) rfl (by rw [hml]; rfl) rfl rfl (lenOf pd_21 rfl) rfl (by decide) fun v884 T884 Lc884 X884 hQ884 => ?_
          obtain ⟨rfl, N884q, e884⟩ := hQ884
          have N884 := Fr.app N883 N884q
          refine own_ru 148 [(.int r_853), (.int (own_lc ay0))] X884 hx hby e0_146_1 rfl rfl ?_
          refine own_cS X884 hx hZ hown (wd79 hw) (wd80 hw) (by decide) (wd81 hw) (wd2 hw) (rm17 l Z a0 hw [] r_853 T877.heap n0 (by omega) U853_0) e884  [(.int r_853)] [(.int (own_lc ay0))] 151 1 (hb hby at_148) rfl (by rw [hml]; rfl) rfl rfl (lenOf pd_22 rfl) rfl (by decide) fun v885 T885 Lc885 X885 hQ885 => ?_
          obtain ⟨rfl, N885q, e885⟩ := hQ885
          have N885 := Fr.app N884 N885q
          refine own_kY 156 X885 hx (hb hby at_151) rfl (teq (ae0.trans (hl0.trans (by rw [own_nch U853_0])))).1 (by decide) (by decide) ?_
          refine own_ru 159 [(.int (2 : Int32)), (.int (1 : Int32))] X885 hx hby e0_156_2 rfl rfl ?_
          refine own_kY 178 X885 hx (hb hby at_159) rfl (tlt (by decide : ((1 : Int32) < (2 : Int32)))).1 (by decide) (by decide) ?_
          refine own_ru 181 [(.int (3 : Int32)), (.int (1 : Int32))] X885 hx hby e0_178_2 rfl rfl ?_
          refine own_kY 200 X885 hx (hb hby at_181) rfl (tlt (by decide : ((1 : Int32) < (3 : Int32)))).1 (by decide) (by decide) ?_
          refine own_ru 203 [(.int (1 : Int32)), (.int (1 : Int32))] X885 hx hby e0_200_2 rfl rfl ?_
          refine own_kN 206 X885 hx (hb hby at_203) rfl (flt (by decide : ¬ ((1 : Int32) < (1 : Int32)))).1 rfl ?_
          refine own_ru 208 [(.int r_853)] X885 hx hby e0_206_1 rfl rfl ?_
          refine own_cS X885 hx hZ hown (wd82 hw) (wd83 hw) (by decide) (wd84 hw) (wd2 hw) (rm18 l Z a0 hw [] r_853 T877.heap n0 (by omega) ) e885  [(.int r_853)] [] 211 0 (hb hby at_208) rfl (by rw [hml]; rfl) rfl rfl (lenOf pd_26 rfl) rfl (by decide) fun v886 T886 Lc886 X886 hQ886 => ?_
          obtain ⟨hvc886, N886q, e886⟩ := hQ886
          have N886 := Fr.app N885 N886q
          rcases hvc886 with ⟨rfl, hp208⟩ | ⟨rfl, hp208⟩
          · refine own_iY 242 X886 hx (hb hby at_211) rfl ((if0 _ _).trans (feq (by decide : ¬ ((1 : Int32) = (0 : Int32)))).2) (by decide) (by decide) ?_
            refine own_ru 243 [(.int (1 : Int32))] X886 hx hby e0_242_1 rfl rfl ?_
            refine own_go 247 X886 hx (hb hby at_243) (by decide) (by decide) ?_
            refine own_rl 251 #[.val (.int i0), .val (.int i1), .val (.int i2), .val (.int i3), .val (.int (1 : Int32)), .val (.int r_853), .val (.int r_854), .val (.int r_855), .val (.ref b867), .val (.ref b870), .val (.ref b870), .val (.int (1 : Int32))] [(.int (1 : Int32))] X886 hx hby e0_247_2 rfl rfl ?_
            refine own_iY 263 X886 hx (hb hby at_251) rfl ((if0 _ _).trans (feq (by decide : ¬ ((1 : Int32) = (0 : Int32)))).2) (by decide) (by decide) ?_
            refine own_ru 264 [(.int (1 : Int32))] X886 hx hby e0_263_1 rfl rfl ?_
            have hq887 : Q0 Z G1 G2 i0 i1 i2 i3 h0 n0 (some (.int (nar .boolean (1 : Int32)))) T877.heap _ := ⟨rfl, N886⟩
            exact own_retN X886 hx hlk (t := .boolean) hrt (by simp) (hb hby at_264) e886 hq887 (by decide) (by decide)
          · refine own_iN 214 X886 hx (hb hby at_211) rfl ((if0 _ _).trans (teq (by decide : ((0 : Int32) = (0 : Int32)))).2) rfl ?_
            refine own_ru 217 [(.int (2 : Int32)), (.int (1 : Int32))] X886 hx hby e0_214_2 rfl rfl ?_
            refine own_kY 228 X886 hx (hb hby at_217) rfl (tlt (by decide : ((1 : Int32) < (2 : Int32)))).1 (by decide) (by decide) ?_
            refine own_ru 231 [(.int (3 : Int32)), (.int (1 : Int32))] X886 hx hby e0_228_2 rfl rfl ?_
            refine own_kY 246 X886 hx (hb hby at_231) rfl (tlt (by decide : ((1 : Int32) < (3 : Int32)))).1 (by decide) (by decide) ?_
            refine own_rl 251 #[.val (.int i0), .val (.int i1), .val (.int i2), .val (.int i3), .val (.int (1 : Int32)), .val (.int r_853), .val (.int r_854), .val (.int r_855), .val (.ref b867), .val (.ref b870), .val (.ref b870), .val (.int (0 : Int32))] [(.int (0 : Int32))] X886 hx hby e0_246_3 rfl rfl ?_
            refine own_iN 254 X886 hx (hb hby at_251) rfl ((if0 _ _).trans (teq (by decide : ((0 : Int32) = (0 : Int32)))).2) rfl ?_
            as_aux_lemma =>
              refine own_ru 258 [(.ref b870), (.ref b870)] X886 hx hby e0_254_2 rfl rfl ?_
              refine own_st 263 [] (fun t k => Jvm.RoadKit.acmp (g := (mkF m 258 #[.val (.int i0), .val (.int i1), .val (.int i2), .val (.int i3), .val (.int (1 : Int32)), .val (.int r_853), .val (.int r_854), .val (.int r_855), .val (.ref b867), .val (.ref b870), .val (.ref b870), .val (.int (0 : Int32))] [(.ref b870), (.ref b870)])) X886 hx rfl rfl rfl (pc0 := 258) (pc' := 263) (same := true) rfl (hb hby at_258) rfl (decide_eq_true rfl) (by decide) (by decide) k) ?_
              refine own_ru 264 [(.int (1 : Int32))] X886 hx hby e0_263_1 rfl rfl ?_
              have hq888 : Q0 Z G1 G2 i0 i1 i2 i3 h0 n0 (some (.int (nar .boolean (1 : Int32)))) T877.heap _ := ⟨rfl, N886⟩
              exact own_retN X886 hx hlk (t := .boolean) hrt (by simp) (hb hby at_264) e886 hq888 (by decide) (by decide)
        · rcases hstr with ⟨bta, bkt, by0, bf0, bf1, bf2, bf3, be0⟩ | ⟨bta, bkt, by0, bz0, bf0, bf1, bf2, bf3, be0⟩
          · have blt : @LT.lt Nat _ bta (Array.size T877.heap) := bf3.lt
            have bls : @LT.lt Nat _ so_877 (Array.size T877.heap) := bf0.lt
            refine own_rl 119 #[.val (.int i0), .val (.int i1), .val (.int i2), .val (.int i3), .val (.int (1 : Int32)), .val (.int r_853), .val (.int r_854), .val (.int r_855), .val (.ref b867), .val (.ref b870), .val (.ref so_877), .unset] [(.ref so_877)] X877 hx hby e0_115_2 rfl rfl ?_
            refine own_st 122 [] (fun t k => XS.ifnullNo X877.here hx rfl (hb hby at_119) rfl k) ?_
            refine own_ru 124 [(.ref so_877)] X877 hx hby e0_122_1 rfl rfl ?_
            have f889 := (f876.keep K877 all0)
            refine own_cV X877 hx hZ hown (wd42 hw) (wd32 hw) (notFace_of_selects (args := #[]) (mvT hZ (wd34 hw))) (wd34 hw) (wd33 hw) (by decide) (wd35 hw) (wd8 hw) (rm6d0 l Z a0 hw [] G1 G2 so_877 bta bkt (1 : Int32) [(.int by0)] T877.heap n0 (by omega) f889 A bf0 bf1 bf2 bf3) rfl bf0 [] [] 127 0 (hb hby at_124) rfl (by rw [hml]; rfl) rfl rfl (lenOf pd_20 rfl) rfl (by decide) fun v890 T890 Lc890 X890 hQ890 => ?_
            obtain ⟨rfl, N890q, e890⟩ := hQ890
            have N890 := Fr.app N877 N890q
            refine own_ru 129 [(.int (1 : Int32)), (.int (1 : Int32))] X890 hx hby e0_127_1 rfl rfl ?_
            refine own_kY 134 X890 hx (hb hby at_129) rfl (teq (by decide : ((1 : Int32) = (1 : Int32)))).1 (by decide) (by decide) ?_
            refine own_ru 137 [(.int (1 : Int32)), (.int (1 : Int32))] X890 hx hby e0_134_2 rfl rfl ?_
            refine own_kN 140 X890 hx (hb hby at_137) rfl (flt (by decide : ¬ ((1 : Int32) < (1 : Int32)))).1 rfl ?_
            refine own_ru 143 [(.int (0 : Int32)), (.ref so_877)] X890 hx hby e0_140_2 rfl rfl ?_
            refine own_cV X890 hx hZ hown (wd78 hw) (wd54 hw) (notFace_of_selects (args := #[]) (mvT hZ (wd56 hw))) (wd56 hw) (wd55 hw) (by decide) (wd57 hw) (wd8 hw) (rm11l l Z a0 hw [] G1 G2 so_877 (0 : Int32) bta bkt (1 : Int32) [(.int by0)] by0 T877.heap n0 (by omega) f889 A bf0 bf1 bf2 bf3 (by decide) (by decide) rfl) e890 bf0 [(.int (0 : Int32))] [] 146 0 (hb hby at_143) rfl (by rw [hml]; rfl) rfl rfl (lenOf pd_21 rfl) rfl (by decide) fun v891 T891 Lc891 X891 hQ891 => ?_
            obtain ⟨rfl, N891q, e891⟩ := hQ891
            have N891 := Fr.app N890 N891q
            refine own_ru 148 [(.int r_853), (.int (own_lc by0))] X891 hx hby e0_146_1 rfl rfl ?_
            refine own_cS X891 hx hZ hown (wd79 hw) (wd80 hw) (by decide) (wd81 hw) (wd2 hw) (rm17 l Z a0 hw [] r_853 T877.heap n0 (by omega) U853_0) e891  [(.int r_853)] [(.int (own_lc by0))] 151 1 (hb hby at_148) rfl (by rw [hml]; rfl) rfl rfl (lenOf pd_22 rfl) rfl (by decide) fun v892 T892 Lc892 X892 hQ892 => ?_
            obtain ⟨rfl, N892q, e892⟩ := hQ892
            have N892 := Fr.app N891 N892q
            refine own_kY 156 X892 hx (hb hby at_151) rfl (teq (be0.trans (by rw [own_nch U853_0]))).1 (by decide) (by decide) ?_
            refine own_ru 159 [(.int (2 : Int32)), (.int (1 : Int32))] X892 hx hby e0_156_2 rfl rfl ?_
            refine own_kY 178 X892 hx (hb hby at_159) rfl (tlt (by decide : ((1 : Int32) < (2 : Int32)))).1 (by decide) (by decide) ?_
            refine own_ru 181 [(.int (3 : Int32)), (.int (1 : Int32))] X892 hx hby e0_178_2 rfl rfl ?_
            refine own_kY 200 X892 hx (hb hby at_181) rfl (tlt (by decide : ((1 : Int32) < (3 : Int32)))).1 (by decide) (by decide) ?_
            refine own_ru 203 [(.int (1 : Int32)), (.int (1 : Int32))] X892 hx hby e0_200_2 rfl rfl ?_
            refine own_kN 206 X892 hx (hb hby at_203) rfl (flt (by decide : ¬ ((1 : Int32) < (1 : Int32)))).1 rfl ?_
            refine own_ru 208 [(.int r_853)] X892 hx hby e0_206_1 rfl rfl ?_
            refine own_cS X892 hx hZ hown (wd82 hw) (wd83 hw) (by decide) (wd84 hw) (wd2 hw) (rm18 l Z a0 hw [] r_853 T877.heap n0 (by omega) ) e892  [(.int r_853)] [] 211 0 (hb hby at_208) rfl (by rw [hml]; rfl) rfl rfl (lenOf pd_26 rfl) rfl (by decide) fun v893 T893 Lc893 X893 hQ893 => ?_
            obtain ⟨hvc893, N893q, e893⟩ := hQ893
            have N893 := Fr.app N892 N893q
            rcases hvc893 with ⟨rfl, hp208⟩ | ⟨rfl, hp208⟩
            · refine own_iY 242 X893 hx (hb hby at_211) rfl ((if0 _ _).trans (feq (by decide : ¬ ((1 : Int32) = (0 : Int32)))).2) (by decide) (by decide) ?_
              refine own_ru 243 [(.int (1 : Int32))] X893 hx hby e0_242_1 rfl rfl ?_
              refine own_go 247 X893 hx (hb hby at_243) (by decide) (by decide) ?_
              refine own_rl 251 #[.val (.int i0), .val (.int i1), .val (.int i2), .val (.int i3), .val (.int (1 : Int32)), .val (.int r_853), .val (.int r_854), .val (.int r_855), .val (.ref b867), .val (.ref b870), .val (.ref so_877), .val (.int (1 : Int32))] [(.int (1 : Int32))] X893 hx hby e0_247_2 rfl rfl ?_
              refine own_iY 263 X893 hx (hb hby at_251) rfl ((if0 _ _).trans (feq (by decide : ¬ ((1 : Int32) = (0 : Int32)))).2) (by decide) (by decide) ?_
              refine own_ru 264 [(.int (1 : Int32))] X893 hx hby e0_263_1 rfl rfl ?_
              have hq894 : Q0 Z G1 G2 i0 i1 i2 i3 h0 n0 (some (.int (nar .boolean (1 : Int32)))) T877.heap _ := ⟨rfl, N893⟩
              exact own_retN X893 hx hlk (t := .boolean) hrt (by simp) (hb hby at_264) e893 hq894 (by decide) (by decide)
            · refine own_iN 214 X893 hx (hb hby at_211) rfl ((if0 _ _).trans (teq (by decide : ((0 : Int32) = (0 : Int32)))).2) rfl ?_
              refine own_ru 217 [(.int (2 : Int32)), (.int (1 : Int32))] X893 hx hby e0_214_2 rfl rfl ?_
              refine own_kY 228 X893 hx (hb hby at_217) rfl (tlt (by decide : ((1 : Int32) < (2 : Int32)))).1 (by decide) (by decide) ?_
              refine own_ru 231 [(.int (3 : Int32)), (.int (1 : Int32))] X893 hx hby e0_228_2 rfl rfl ?_
              refine own_kY 246 X893 hx (hb hby at_231) rfl (tlt (by decide : ((1 : Int32) < (3 : Int32)))).1 (by decide) (by decide) ?_
              refine own_rl 251 #[.val (.int i0), .val (.int i1), .val (.int i2), .val (.int i3), .val (.int (1 : Int32)), .val (.int r_853), .val (.int r_854), .val (.int r_855), .val (.ref b867), .val (.ref b870), .val (.ref so_877), .val (.int (0 : Int32))] [(.int (0 : Int32))] X893 hx hby e0_246_3 rfl rfl ?_
              refine own_iN 254 X893 hx (hb hby at_251) rfl ((if0 _ _).trans (teq (by decide : ((0 : Int32) = (0 : Int32)))).2) rfl ?_
              as_aux_lemma =>
                exact absurd (by rw [own_nch U853_0]; exact own_nup hp208) hneg
          · have blt : @LT.lt Nat _ bta (Array.size T877.heap) := bf3.lt
            have bls : @LT.lt Nat _ so_877 (Array.size T877.heap) := bf0.lt
            refine own_rl 119 #[.val (.int i0), .val (.int i1), .val (.int i2), .val (.int i3), .val (.int (1 : Int32)), .val (.int r_853), .val (.int r_854), .val (.int r_855), .val (.ref b867), .val (.ref b870), .val (.ref so_877), .unset] [(.ref so_877)] X877 hx hby e0_115_2 rfl rfl ?_
            refine own_st 122 [] (fun t k => XS.ifnullNo X877.here hx rfl (hb hby at_119) rfl k) ?_
            refine own_ru 124 [(.ref so_877)] X877 hx hby e0_122_1 rfl rfl ?_
            have f895 := (f876.keep K877 all0)
            refine own_cV X877 hx hZ hown (wd42 hw) (wd32 hw) (notFace_of_selects (args := #[]) (mvT hZ (wd34 hw))) (wd34 hw) (wd33 hw) (by decide) (wd35 hw) (wd8 hw) (rm6d1 l Z a0 hw [] G1 G2 so_877 bta bkt (2 : Int32) [(.int by0), (.int bz0)] T877.heap n0 (by omega) f895 A bf0 bf1 bf2 bf3) rfl bf0 [] [] 127 0 (hb hby at_124) rfl (by rw [hml]; rfl) rfl rfl (lenOf pd_20 rfl) rfl (by decide) fun v896 T896 Lc896 X896 hQ896 => ?_
            obtain ⟨rfl, N896q, e896⟩ := hQ896
            have N896 := Fr.app N877 N896q
            refine own_ru 129 [(.int (1 : Int32)), (.int (1 : Int32))] X896 hx hby e0_127_1 rfl rfl ?_
            refine own_kY 134 X896 hx (hb hby at_129) rfl (teq (by decide : ((1 : Int32) = (1 : Int32)))).1 (by decide) (by decide) ?_
            refine own_ru 137 [(.int (1 : Int32)), (.int (1 : Int32))] X896 hx hby e0_134_2 rfl rfl ?_
            refine own_kN 140 X896 hx (hb hby at_137) rfl (flt (by decide : ¬ ((1 : Int32) < (1 : Int32)))).1 rfl ?_
            refine own_ru 143 [(.int (0 : Int32)), (.ref so_877)] X896 hx hby e0_140_2 rfl rfl ?_
            refine own_cV X896 hx hZ hown (wd78 hw) (wd54 hw) (notFace_of_selects (args := #[]) (mvT hZ (wd56 hw))) (wd56 hw) (wd55 hw) (by decide) (wd57 hw) (wd8 hw) (rm11u l Z a0 hw [] G1 G2 so_877 (0 : Int32) bta bkt (2 : Int32) [(.int by0), (.int bz0)] by0 bz0 T877.heap n0 (by omega) f895 A bf0 bf1 bf2 bf3 (by decide) (by decide) ⟨by decide, by decide⟩ ⟨by decide, by decide⟩ rfl rfl) e896 bf0 [(.int (0 : Int32))] [] 146 0 (hb hby at_143) rfl (by rw [hml]; rfl) rfl rfl (lenOf pd_21 rfl) rfl (by decide) fun v897 T897 Lc897 X897 hQ897 => ?_
            obtain ⟨rfl, N897q, e897⟩ := hQ897
            have N897 := Fr.app N896 N897q
            refine own_ru 148 [(.int r_853), (.int (own_u by0 bz0))] X897 hx hby e0_146_1 rfl rfl ?_
            refine own_cS X897 hx hZ hown (wd79 hw) (wd80 hw) (by decide) (wd81 hw) (wd2 hw) (rm17 l Z a0 hw [] r_853 T877.heap n0 (by omega) U853_0) e897  [(.int r_853)] [(.int (own_u by0 bz0))] 151 1 (hb hby at_148) rfl (by rw [hml]; rfl) rfl rfl (lenOf pd_22 rfl) rfl (by decide) fun v898 T898 Lc898 X898 hQ898 => ?_
            obtain ⟨rfl, N898q, e898⟩ := hQ898
            have N898 := Fr.app N897 N898q
            refine own_kY 156 X898 hx (hb hby at_151) rfl (teq (be0.trans (by rw [own_nch U853_0]))).1 (by decide) (by decide) ?_
            refine own_ru 159 [(.int (2 : Int32)), (.int (1 : Int32))] X898 hx hby e0_156_2 rfl rfl ?_
            refine own_kY 178 X898 hx (hb hby at_159) rfl (tlt (by decide : ((1 : Int32) < (2 : Int32)))).1 (by decide) (by decide) ?_
            refine own_ru 181 [(.int (3 : Int32)), (.int (1 : Int32))] X898 hx hby e0_178_2 rfl rfl ?_
            refine own_kY 200 X898 hx (hb hby at_181) rfl (tlt (by decide : ((1 : Int32) < (3 : Int32)))).1 (by decide) (by decide) ?_
            refine own_ru 203 [(.int (1 : Int32)), (.int (1 : Int32))] X898 hx hby e0_200_2 rfl rfl ?_
            refine own_kN 206 X898 hx (hb hby at_203) rfl (flt (by decide : ¬ ((1 : Int32) < (1 : Int32)))).1 rfl ?_
            refine own_ru 208 [(.int r_853)] X898 hx hby e0_206_1 rfl rfl ?_
            refine own_cS X898 hx hZ hown (wd82 hw) (wd83 hw) (by decide) (wd84 hw) (wd2 hw) (rm18 l Z a0 hw [] r_853 T877.heap n0 (by omega) ) e898  [(.int r_853)] [] 211 0 (hb hby at_208) rfl (by rw [hml]; rfl) rfl rfl (lenOf pd_26 rfl) rfl (by decide) fun v899 T899 Lc899 X899 hQ899 => ?_
            obtain ⟨hvc899, N899q, e899⟩ := hQ899
            have N899 := Fr.app N898 N899q
            rcases hvc899 with ⟨rfl, hp208⟩ | ⟨rfl, hp208⟩
            · refine own_iY 242 X899 hx (hb hby at_211) rfl ((if0 _ _).trans (feq (by decide : ¬ ((1 : Int32) = (0 : Int32)))).2) (by decide) (by decide) ?_
              refine own_ru 243 [(.int (1 : Int32))] X899 hx hby e0_242_1 rfl rfl ?_
              refine own_go 247 X899 hx (hb hby at_243) (by decide) (by decide) ?_
              refine own_rl 251 #[.val (.int i0), .val (.int i1), .val (.int i2), .val (.int i3), .val (.int (1 : Int32)), .val (.int r_853), .val (.int r_854), .val (.int r_855), .val (.ref b867), .val (.ref b870), .val (.ref so_877), .val (.int (1 : Int32))] [(.int (1 : Int32))] X899 hx hby e0_247_2 rfl rfl ?_
              refine own_iY 263 X899 hx (hb hby at_251) rfl ((if0 _ _).trans (feq (by decide : ¬ ((1 : Int32) = (0 : Int32)))).2) (by decide) (by decide) ?_
              refine own_ru 264 [(.int (1 : Int32))] X899 hx hby e0_263_1 rfl rfl ?_
              have hq900 : Q0 Z G1 G2 i0 i1 i2 i3 h0 n0 (some (.int (nar .boolean (1 : Int32)))) T877.heap _ := ⟨rfl, N899⟩
              exact own_retN X899 hx hlk (t := .boolean) hrt (by simp) (hb hby at_264) e899 hq900 (by decide) (by decide)
            · refine own_iN 214 X899 hx (hb hby at_211) rfl ((if0 _ _).trans (teq (by decide : ((0 : Int32) = (0 : Int32)))).2) rfl ?_
              refine own_ru 217 [(.int (2 : Int32)), (.int (1 : Int32))] X899 hx hby e0_214_2 rfl rfl ?_
              refine own_kY 228 X899 hx (hb hby at_217) rfl (tlt (by decide : ((1 : Int32) < (2 : Int32)))).1 (by decide) (by decide) ?_
              refine own_ru 231 [(.int (3 : Int32)), (.int (1 : Int32))] X899 hx hby e0_228_2 rfl rfl ?_
              refine own_kY 246 X899 hx (hb hby at_231) rfl (tlt (by decide : ((1 : Int32) < (3 : Int32)))).1 (by decide) (by decide) ?_
              refine own_rl 251 #[.val (.int i0), .val (.int i1), .val (.int i2), .val (.int i3), .val (.int (1 : Int32)), .val (.int r_853), .val (.int r_854), .val (.int r_855), .val (.ref b867), .val (.ref b870), .val (.ref so_877), .val (.int (0 : Int32))] [(.int (0 : Int32))] X899 hx hby e0_246_3 rfl rfl ?_
              refine own_iN 254 X899 hx (hb hby at_251) rfl ((if0 _ _).trans (teq (by decide : ((0 : Int32) = (0 : Int32)))).2) rfl ?_
              as_aux_lemma =>
                exact absurd (by rw [own_nch U853_0]; exact own_nup hp208) hneg
      · have alt : @LT.lt Nat _ ata (Array.size T875.heap) := af3.lt
        have als : @LT.lt Nat _ b870 (Array.size T875.heap) := af0.lt
        have f901 := (f873.keep K875 (allS (by omega) all0))
        refine own_cS X875 hx hZ hown (wd27 hw) (wd28 hw) (by decide) (wd30 hw) (wd29 hw) (rm5n11 l Z a0 hw [] G1 G2 b870 ata akt (nar .char r_853) ay0 az0 T875.heap n0 (by omega) f901 A af0 af1 af2 af3 ae0 (own_chn _)) rfl  [(.ref b870)] [] 115 0 (hb hby at_112) rfl (by rw [hml]; rfl) rfl rfl (lenOf pd_25 rfl) rfl (by decide) fun v902 T902 Lc902 X902 hQ902 => ?_
        obtain ⟨so_902, rfl, N902q, K902, G902_0⟩ := hQ902
        have N902 := Fr.app N875 N902q
        have z902 := K902.1
        rcases G902_0 with ⟨hso, hl0⟩ | ⟨hstr, hneg⟩
        · rw [hso]
          refine own_rl 119 #[.val (.int i0), .val (.int i1), .val (.int i2), .val (.int i3), .val (.int (1 : Int32)), .val (.int r_853), .val (.int r_854), .val (.int r_855), .val (.ref b867), .val (.ref b870), .val (.ref b870), .unset] [(.ref b870)] X902 hx hby e0_115_2 rfl rfl ?_
          refine own_st 122 [] (fun t k => XS.ifnullNo X902.here hx rfl (hb hby at_119) rfl k) ?_
          refine own_ru 124 [(.ref b870)] X902 hx hby e0_122_1 rfl rfl ?_
          have f903 := (f901.keep K902 all0)
          have f904 := (Exa.keep af0 K902)
          have f905 := (af1.keep K902 nin0)
          have f906 := (af2.keep K902 nin0)
          have f907 := (af3.keep K902 nin0)
          refine own_cV X902 hx hZ hown (wd42 hw) (wd32 hw) (notFace_of_selects (args := #[]) (mvT hZ (wd34 hw))) (wd34 hw) (wd33 hw) (by decide) (wd35 hw) (wd8 hw) (rm6d1 l Z a0 hw [] G1 G2 b870 ata akt (2 : Int32) [(.int ay0), (.int az0)] T902.heap n0 (by omega) f903 A f904 f905 f906 f907) rfl f904 [] [] 127 0 (hb hby at_124) rfl (by rw [hml]; rfl) rfl rfl (lenOf pd_20 rfl) rfl (by decide) fun v908 T908 Lc908 X908 hQ908 => ?_
          obtain ⟨rfl, N908q, e908⟩ := hQ908
          have N908 := Fr.app N902 N908q
          refine own_ru 129 [(.int (1 : Int32)), (.int (1 : Int32))] X908 hx hby e0_127_1 rfl rfl ?_
          refine own_kY 134 X908 hx (hb hby at_129) rfl (teq (by decide : ((1 : Int32) = (1 : Int32)))).1 (by decide) (by decide) ?_
          refine own_ru 137 [(.int (1 : Int32)), (.int (1 : Int32))] X908 hx hby e0_134_2 rfl rfl ?_
          refine own_kN 140 X908 hx (hb hby at_137) rfl (flt (by decide : ¬ ((1 : Int32) < (1 : Int32)))).1 rfl ?_
          refine own_ru 143 [(.int (0 : Int32)), (.ref b870)] X908 hx hby e0_140_2 rfl rfl ?_
          refine own_cV X908 hx hZ hown (wd78 hw) (wd54 hw) (notFace_of_selects (args := #[]) (mvT hZ (wd56 hw))) (wd56 hw) (wd55 hw) (by decide) (wd57 hw) (wd8 hw) (rm11u l Z a0 hw [] G1 G2 b870 (0 : Int32) ata akt (2 : Int32) [(.int ay0), (.int az0)] ay0 az0 T902.heap n0 (by omega) f903 A f904 f905 f906 f907 (by decide) (by decide) ⟨by decide, by decide⟩ ⟨by decide, by decide⟩ rfl rfl) e908 f904 [(.int (0 : Int32))] [] 146 0 (hb hby at_143) rfl (by rw [hml]; rfl) rfl rfl (lenOf pd_21 rfl) rfl (by decide) fun v909 T909 Lc909 X909 hQ909 => ?_
          obtain ⟨rfl, N909q, e909⟩ := hQ909
          have N909 := Fr.app N908 N909q
          refine own_ru 148 [(.int r_853), (.int (own_u ay0 az0))] X909 hx hby e0_146_1 rfl rfl ?_
          refine own_cS X909 hx hZ hown (wd79 hw) (wd80 hw) (by decide) (wd81 hw) (wd2 hw) (rm17 l Z a0 hw [] r_853 T902.heap n0 (by omega) U853_0) e909  [(.int r_853)] [(.int (own_u ay0 az0))] 151 1 (hb hby at_148) rfl (by rw [hml]; rfl) rfl rfl (lenOf pd_22 rfl) rfl (by decide) fun v910 T910 Lc910 X910 hQ910 => ?_
          obtain ⟨rfl, N910q, e910⟩ := hQ910
          have N910 := Fr.app N909 N910q
          refine own_kY 156 X910 hx (hb hby at_151) rfl (teq (ae0.trans (hl0.trans (by rw [own_nch U853_0])))).1 (by decide) (by decide) ?_
          refine own_ru 159 [(.int (2 : Int32)), (.int (1 : Int32))] X910 hx hby e0_156_2 rfl rfl ?_
          refine own_kY 178 X910 hx (hb hby at_159) rfl (tlt (by decide : ((1 : Int32) < (2 : Int32)))).1 (by decide) (by decide) ?_
          refine own_ru 181 [(.int (3 : Int32)), (.int (1 : Int32))] X910 hx hby e0_178_2 rfl rfl ?_
          refine own_kY 200 X910 hx (hb hby at_181) rfl (tlt (by decide : ((1 : Int32) < (3 : Int32)))).1 (by decide) (by decide) ?_
          refine own_ru 203 [(.int (1 : Int32)), (.int (1 : Int32))] X910 hx hby e0_200_2 rfl rfl ?_
          refine own_kN 206 X910 hx (hb hby at_203) rfl (flt (by decide : ¬ ((1 : Int32) < (1 : Int32)))).1 rfl ?_
          refine own_ru 208 [(.int r_853)] X910 hx hby e0_206_1 rfl rfl ?_
          refine own_cS X910 hx hZ hown (wd82 hw) (wd83 hw) (by decide) (wd84 hw) (wd2 hw) (rm18 l Z a0 hw [] r_853 T902.heap n0 (by omega) ) e910  [(.int r_853)] [] 211 0 (hb hby at_208) rfl (by rw [hml]; rfl) rfl rfl (lenOf pd_26 rfl) rfl (by decide) fun v911 T911 Lc911 X911 hQ911 => ?_
          obtain ⟨hvc911, N911q, e911⟩ := hQ911
          have N911 := Fr.app N910 N911q
          rcases hvc911 with ⟨rfl, hp208⟩ | ⟨rfl, hp208⟩
          · refine own_iY 242 X911 hx (hb hby at_211) rfl ((if0 _ _).trans (feq (by decide : ¬ ((1 : Int32) = (0 : Int32)))).2) (by decide) (by decide) ?_
            refine own_ru 243 [(.int (1 : Int32))] X911 hx hby e0_242_1 rfl rfl ?_
            refine own_go 247 X911 hx (hb hby at_243) (by decide) (by decide) ?_
            refine own_rl 251 #[.val (.int i0), .val (.int i1), .val (.int i2), .val (.int i3), .val (.int (1 : Int32)), .val (.int r_853), .val (.int r_854), .val (.int r_855), .val (.ref b867), .val (.ref b870), .val (.ref b870), .val (.int (1 : Int32))] [(.int (1 : Int32))] X911 hx hby e0_247_2 rfl rfl ?_
            refine own_iY 263 X911 hx (hb hby at_251) rfl ((if0 _ _).trans (feq (by decide : ¬ ((1 : Int32) = (0 : Int32)))).2) (by decide) (by decide) ?_
            refine own_ru 264 [(.int (1 : Int32))] X911 hx hby e0_263_1 rfl rfl ?_
            have hq912 : Q0 Z G1 G2 i0 i1 i2 i3 h0 n0 (some (.int (nar .boolean (1 : Int32)))) T902.heap _ := ⟨rfl, N911⟩
            exact own_retN X911 hx hlk (t := .boolean) hrt (by simp) (hb hby at_264) e911 hq912 (by decide) (by decide)
          · refine own_iN 214 X911 hx (hb hby at_211) rfl ((if0 _ _).trans (teq (by decide : ((0 : Int32) = (0 : Int32)))).2) rfl ?_
            refine own_ru 217 [(.int (2 : Int32)), (.int (1 : Int32))] X911 hx hby e0_214_2 rfl rfl ?_
            refine own_kY 228 X911 hx (hb hby at_217) rfl (tlt (by decide : ((1 : Int32) < (2 : Int32)))).1 (by decide) (by decide) ?_
            refine own_ru 231 [(.int (3 : Int32)), (.int (1 : Int32))] X911 hx hby e0_228_2 rfl rfl ?_
            refine own_kY 246 X911 hx (hb hby at_231) rfl (tlt (by decide : ((1 : Int32) < (3 : Int32)))).1 (by decide) (by decide) ?_
            refine own_rl 251 #[.val (.int i0), .val (.int i1), .val (.int i2), .val (.int i3), .val (.int (1 : Int32)), .val (.int r_853), .val (.int r_854), .val (.int r_855), .val (.ref b867), .val (.ref b870), .val (.ref b870), .val (.int (0 : Int32))] [(.int (0 : Int32))] X911 hx hby e0_246_3 rfl rfl ?_
            refine own_iN 254 X911 hx (hb hby at_251) rfl ((if0 _ _).trans (teq (by decide : ((0 : Int32) = (0 : Int32)))).2) rfl ?_
            as_aux_lemma =>
              refine own_ru 258 [(.ref b870), (.ref b870)] X911 hx hby e0_254_2 rfl rfl ?_
              refine own_st 263 [] (fun t k => Jvm.RoadKit.acmp (g := (mkF m 258 #[.val (.int i0), .val (.int i1), .val (.int i2), .val (.int i3), .val (.int (1 : Int32)), .val (.int r_853), .val (.int r_854), .val (.int r_855), .val (.ref b867), .val (.ref b870), .val (.ref b870), .val (.int (0 : Int32))] [(.ref b870), (.ref b870)])) X911 hx rfl rfl rfl (pc0 := 258) (pc' := 263) (same := true) rfl (hb hby at_258) rfl (decide_eq_true rfl) (by decide) (by decide) k) ?_
              refine own_ru 264 [(.int (1 : Int32))] X911 hx hby e0_263_1 rfl rfl ?_
              have hq913 : Q0 Z G1 G2 i0 i1 i2 i3 h0 n0 (some (.int (nar .boolean (1 : Int32)))) T902.heap _ := ⟨rfl, N911⟩
              exact own_retN X911 hx hlk (t := .boolean) hrt (by simp) (hb hby at_264) e911 hq913 (by decide) (by decide)
        · rcases hstr with ⟨bta, bkt, by0, bf0, bf1, bf2, bf3, be0⟩ | ⟨bta, bkt, by0, bz0, bf0, bf1, bf2, bf3, be0⟩
          · have blt : @LT.lt Nat _ bta (Array.size T902.heap) := bf3.lt
            have bls : @LT.lt Nat _ so_902 (Array.size T902.heap) := bf0.lt
            refine own_rl 119 #[.val (.int i0), .val (.int i1), .val (.int i2), .val (.int i3), .val (.int (1 : Int32)), .val (.int r_853), .val (.int r_854), .val (.int r_855), .val (.ref b867), .val (.ref b870), .val (.ref so_902), .unset] [(.ref so_902)] X902 hx hby e0_115_2 rfl rfl ?_
            refine own_st 122 [] (fun t k => XS.ifnullNo X902.here hx rfl (hb hby at_119) rfl k) ?_
            refine own_ru 124 [(.ref so_902)] X902 hx hby e0_122_1 rfl rfl ?_
            have f914 := (f901.keep K902 all0)
            refine own_cV X902 hx hZ hown (wd42 hw) (wd32 hw) (notFace_of_selects (args := #[]) (mvT hZ (wd34 hw))) (wd34 hw) (wd33 hw) (by decide) (wd35 hw) (wd8 hw) (rm6d0 l Z a0 hw [] G1 G2 so_902 bta bkt (1 : Int32) [(.int by0)] T902.heap n0 (by omega) f914 A bf0 bf1 bf2 bf3) rfl bf0 [] [] 127 0 (hb hby at_124) rfl (by rw [hml]; rfl) rfl rfl (lenOf pd_20 rfl) rfl (by decide) fun v915 T915 Lc915 X915 hQ915 => ?_
            obtain ⟨rfl, N915q, e915⟩ := hQ915
            have N915 := Fr.app N902 N915q
            refine own_ru 129 [(.int (1 : Int32)), (.int (1 : Int32))] X915 hx hby e0_127_1 rfl rfl ?_
            refine own_kY 134 X915 hx (hb hby at_129) rfl (teq (by decide : ((1 : Int32) = (1 : Int32)))).1 (by decide) (by decide) ?_
            refine own_ru 137 [(.int (1 : Int32)), (.int (1 : Int32))] X915 hx hby e0_134_2 rfl rfl ?_
            refine own_kN 140 X915 hx (hb hby at_137) rfl (flt (by decide : ¬ ((1 : Int32) < (1 : Int32)))).1 rfl ?_
            refine own_ru 143 [(.int (0 : Int32)), (.ref so_902)] X915 hx hby e0_140_2 rfl rfl ?_
            refine own_cV X915 hx hZ hown (wd78 hw) (wd54 hw) (notFace_of_selects (args := #[]) (mvT hZ (wd56 hw))) (wd56 hw) (wd55 hw) (by decide) (wd57 hw) (wd8 hw) (rm11l l Z a0 hw [] G1 G2 so_902 (0 : Int32) bta bkt (1 : Int32) [(.int by0)] by0 T902.heap n0 (by omega) f914 A bf0 bf1 bf2 bf3 (by decide) (by decide) rfl) e915 bf0 [(.int (0 : Int32))] [] 146 0 (hb hby at_143) rfl (by rw [hml]; rfl) rfl rfl (lenOf pd_21 rfl) rfl (by decide) fun v916 T916 Lc916 X916 hQ916 => ?_
            obtain ⟨rfl, N916q, e916⟩ := hQ916
            have N916 := Fr.app N915 N916q
            refine own_ru 148 [(.int r_853), (.int (own_lc by0))] X916 hx hby e0_146_1 rfl rfl ?_
            refine own_cS X916 hx hZ hown (wd79 hw) (wd80 hw) (by decide) (wd81 hw) (wd2 hw) (rm17 l Z a0 hw [] r_853 T902.heap n0 (by omega) U853_0) e916  [(.int r_853)] [(.int (own_lc by0))] 151 1 (hb hby at_148) rfl (by rw [hml]; rfl) rfl rfl (lenOf pd_22 rfl) rfl (by decide) fun v917 T917 Lc917 X917 hQ917 => ?_
            obtain ⟨rfl, N917q, e917⟩ := hQ917
            have N917 := Fr.app N916 N917q
            refine own_kY 156 X917 hx (hb hby at_151) rfl (teq (be0.trans (by rw [own_nch U853_0]))).1 (by decide) (by decide) ?_
            refine own_ru 159 [(.int (2 : Int32)), (.int (1 : Int32))] X917 hx hby e0_156_2 rfl rfl ?_
            refine own_kY 178 X917 hx (hb hby at_159) rfl (tlt (by decide : ((1 : Int32) < (2 : Int32)))).1 (by decide) (by decide) ?_
            refine own_ru 181 [(.int (3 : Int32)), (.int (1 : Int32))] X917 hx hby e0_178_2 rfl rfl ?_
            refine own_kY 200 X917 hx (hb hby at_181) rfl (tlt (by decide : ((1 : Int32) < (3 : Int32)))).1 (by decide) (by decide) ?_
            refine own_ru 203 [(.int (1 : Int32)), (.int (1 : Int32))] X917 hx hby e0_200_2 rfl rfl ?_
            refine own_kN 206 X917 hx (hb hby at_203) rfl (flt (by decide : ¬ ((1 : Int32) < (1 : Int32)))).1 rfl ?_
            refine own_ru 208 [(.int r_853)] X917 hx hby e0_206_1 rfl rfl ?_
            refine own_cS X917 hx hZ hown (wd82 hw) (wd83 hw) (by decide) (wd84 hw) (wd2 hw) (rm18 l Z a0 hw [] r_853 T902.heap n0 (by omega) ) e917  [(.int r_853)] [] 211 0 (hb hby at_208) rfl (by rw [hml]; rfl) rfl rfl (lenOf pd_26 rfl) rfl (by decide) fun v918 T918 Lc918 X918 hQ918 => ?_
            obtain ⟨hvc918, N918q, e918⟩ := hQ918
            have N918 := Fr.app N917 N918q
            rcases hvc918 with ⟨rfl, hp208⟩ | ⟨rfl, hp208⟩
            · refine own_iY 242 X918 hx (hb hby at_211) rfl ((if0 _ _).trans (feq (by decide : ¬ ((1 : Int32) = (0 : Int32)))).2) (by decide) (by decide) ?_
              refine own_ru 243 [(.int (1 : Int32))] X918 hx hby e0_242_1 rfl rfl ?_
              refine own_go 247 X918 hx (hb hby at_243) (by decide) (by decide) ?_
              refine own_rl 251 #[.val (.int i0), .val (.int i1), .val (.int i2), .val (.int i3), .val (.int (1 : Int32)), .val (.int r_853), .val (.int r_854), .val (.int r_855), .val (.ref b867), .val (.ref b870), .val (.ref so_902), .val (.int (1 : Int32))] [(.int (1 : Int32))] X918 hx hby e0_247_2 rfl rfl ?_
              refine own_iY 263 X918 hx (hb hby at_251) rfl ((if0 _ _).trans (feq (by decide : ¬ ((1 : Int32) = (0 : Int32)))).2) (by decide) (by decide) ?_
              refine own_ru 264 [(.int (1 : Int32))] X918 hx hby e0_263_1 rfl rfl ?_
              have hq919 : Q0 Z G1 G2 i0 i1 i2 i3 h0 n0 (some (.int (nar .boolean (1 : Int32)))) T902.heap _ := ⟨rfl, N918⟩
              exact own_retN X918 hx hlk (t := .boolean) hrt (by simp) (hb hby at_264) e918 hq919 (by decide) (by decide)
            · refine own_iN 214 X918 hx (hb hby at_211) rfl ((if0 _ _).trans (teq (by decide : ((0 : Int32) = (0 : Int32)))).2) rfl ?_
              refine own_ru 217 [(.int (2 : Int32)), (.int (1 : Int32))] X918 hx hby e0_214_2 rfl rfl ?_
              refine own_kY 228 X918 hx (hb hby at_217) rfl (tlt (by decide : ((1 : Int32) < (2 : Int32)))).1 (by decide) (by decide) ?_
              refine own_ru 231 [(.int (3 : Int32)), (.int (1 : Int32))] X918 hx hby e0_228_2 rfl rfl ?_
              refine own_kY 246 X918 hx (hb hby at_231) rfl (tlt (by decide : ((1 : Int32) < (3 : Int32)))).1 (by decide) (by decide) ?_
              refine own_rl 251 #[.val (.int i0), .val (.int i1), .val (.int i2), .val (.int i3), .val (.int (1 : Int32)), .val (.int r_853), .val (.int r_854), .val (.int r_855), .val (.ref b867), .val (.ref b870), .val (.ref so_902), .val (.int (0 : Int32))] [(.int (0 : Int32))] X918 hx hby e0_246_3 rfl rfl ?_
              refine own_iN 254 X918 hx (hb hby at_251) rfl ((if0 _ _).trans (teq (by decide : ((0 : Int32) = (0 : Int32)))).2) rfl ?_
              as_aux_lemma =>
                exact absurd (by rw [own_nch U853_0]; exact own_nup hp208) hneg
          · have blt : @LT.lt Nat _ bta (Array.size T902.heap) := bf3.lt
            have bls : @LT.lt Nat _ so_902 (Array.size T902.heap) := bf0.lt
            refine own_rl 119 #[.val (.int i0), .val (.int i1), .val (.int i2), .val (.int i3), .val (.int (1 : Int32)), .val (.int r_853), .val (.int r_854), .val (.int r_855), .val (.ref b867), .val (.ref b870), .val (.ref so_902), .unset] [(.ref so_902)] X902 hx hby e0_115_2 rfl rfl ?_
            refine own_st 122 [] (fun t k => XS.ifnullNo X902.here hx rfl (hb hby at_119) rfl k) ?_
            refine own_ru 124 [(.ref so_902)] X902 hx hby e0_122_1 rfl rfl ?_
            have f920 := (f901.keep K902 all0)
            refine own_cV X902 hx hZ hown (wd42 hw) (wd32 hw) (notFace_of_selects (args := #[]) (mvT hZ (wd34 hw))) (wd34 hw) (wd33 hw) (by decide) (wd35 hw) (wd8 hw) (rm6d1 l Z a0 hw [] G1 G2 so_902 bta bkt (2 : Int32) [(.int by0), (.int bz0)] T902.heap n0 (by omega) f920 A bf0 bf1 bf2 bf3) rfl bf0 [] [] 127 0 (hb hby at_124) rfl (by rw [hml]; rfl) rfl rfl (lenOf pd_20 rfl) rfl (by decide) fun v921 T921 Lc921 X921 hQ921 => ?_
            obtain ⟨rfl, N921q, e921⟩ := hQ921
            have N921 := Fr.app N902 N921q
            refine own_ru 129 [(.int (1 : Int32)), (.int (1 : Int32))] X921 hx hby e0_127_1 rfl rfl ?_
            refine own_kY 134 X921 hx (hb hby at_129) rfl (teq (by decide : ((1 : Int32) = (1 : Int32)))).1 (by decide) (by decide) ?_
            refine own_ru 137 [(.int (1 : Int32)), (.int (1 : Int32))] X921 hx hby e0_134_2 rfl rfl ?_
            refine own_kN 140 X921 hx (hb hby at_137) rfl (flt (by decide : ¬ ((1 : Int32) < (1 : Int32)))).1 rfl ?_
            refine own_ru 143 [(.int (0 : Int32)), (.ref so_902)] X921 hx hby e0_140_2 rfl rfl ?_
            refine own_cV X921 hx hZ hown (wd78 hw) (wd54 hw) (notFace_of_selects (args := #[]) (mvT hZ (wd56 hw))) (wd56 hw) (wd55 hw) (by decide) (wd57 hw) (wd8 hw) (rm11u l Z a0 hw [] G1 G2 so_902 (0 : Int32) bta bkt (2 : Int32) [(.int by0), (.int bz0)] by0 bz0 T902.heap n0 (by omega) f920 A bf0 bf1 bf2 bf3 (by decide) (by decide) ⟨by decide, by decide⟩ ⟨by decide, by decide⟩ rfl rfl) e921 bf0 [(.int (0 : Int32))] [] 146 0 (hb hby at_143) rfl (by rw [hml]; rfl) rfl rfl (lenOf pd_21 rfl) rfl (by decide) fun v922 T922 Lc922 X922 hQ922 => ?_
            obtain ⟨rfl, N922q, e922⟩ := hQ922
            have N922 := Fr.app N921 N922q
            refine own_ru 148 [(.int r_853), (.int (own_u by0 bz0))] X922 hx hby e0_146_1 rfl rfl ?_
            refine own_cS X922 hx hZ hown (wd79 hw) (wd80 hw) (by decide) (wd81 hw) (wd2 hw) (rm17 l Z a0 hw [] r_853 T902.heap n0 (by omega) U853_0) e922  [(.int r_853)] [(.int (own_u by0 bz0))] 151 1 (hb hby at_148) rfl (by rw [hml]; rfl) rfl rfl (lenOf pd_22 rfl) rfl (by decide) fun v923 T923 Lc923 X923 hQ923 => ?_
            obtain ⟨rfl, N923q, e923⟩ := hQ923
            have N923 := Fr.app N922 N923q
            refine own_kY 156 X923 hx (hb hby at_151) rfl (teq (be0.trans (by rw [own_nch U853_0]))).1 (by decide) (by decide) ?_
            refine own_ru 159 [(.int (2 : Int32)), (.int (1 : Int32))] X923 hx hby e0_156_2 rfl rfl ?_
            refine own_kY 178 X923 hx (hb hby at_159) rfl (tlt (by decide : ((1 : Int32) < (2 : Int32)))).1 (by decide) (by decide) ?_
            refine own_ru 181 [(.int (3 : Int32)), (.int (1 : Int32))] X923 hx hby e0_178_2 rfl rfl ?_
            refine own_kY 200 X923 hx (hb hby at_181) rfl (tlt (by decide : ((1 : Int32) < (3 : Int32)))).1 (by decide) (by decide) ?_
            refine own_ru 203 [(.int (1 : Int32)), (.int (1 : Int32))] X923 hx hby e0_200_2 rfl rfl ?_
            refine own_kN 206 X923 hx (hb hby at_203) rfl (flt (by decide : ¬ ((1 : Int32) < (1 : Int32)))).1 rfl ?_
            refine own_ru 208 [(.int r_853)] X923 hx hby e0_206_1 rfl rfl ?_
            refine own_cS X923 hx hZ hown (wd82 hw) (wd83 hw) (by decide) (wd84 hw) (wd2 hw) (rm18 l Z a0 hw [] r_853 T902.heap n0 (by omega) ) e923  [(.int r_853)] [] 211 0 (hb hby at_208) rfl (by rw [hml]; rfl) rfl rfl (lenOf pd_26 rfl) rfl (by decide) fun v924 T924 Lc924 X924 hQ924 => ?_
            obtain ⟨hvc924, N924q, e924⟩ := hQ924
            have N924 := Fr.app N923 N924q
            rcases hvc924 with ⟨rfl, hp208⟩ | ⟨rfl, hp208⟩
            · refine own_iY 242 X924 hx (hb hby at_211) rfl ((if0 _ _).trans (feq (by decide : ¬ ((1 : Int32) = (0 : Int32)))).2) (by decide) (by decide) ?_
              refine own_ru 243 [(.int (1 : Int32))] X924 hx hby e0_242_1 rfl rfl ?_
              refine own_go 247 X924 hx (hb hby at_243) (by decide) (by decide) ?_
              refine own_rl 251 #[.val (.int i0), .val (.int i1), .val (.int i2), .val (.int i3), .val (.int (1 : Int32)), .val (.int r_853), .val (.int r_854), .val (.int r_855), .val (.ref b867), .val (.ref b870), .val (.ref so_902), .val (.int (1 : Int32))] [(.int (1 : Int32))] X924 hx hby e0_247_2 rfl rfl ?_
              refine own_iY 263 X924 hx (hb hby at_251) rfl ((if0 _ _).trans (feq (by decide : ¬ ((1 : Int32) = (0 : Int32)))).2) (by decide) (by decide) ?_
              refine own_ru 264 [(.int (1 : Int32))] X924 hx hby e0_263_1 rfl rfl ?_
              have hq925 : Q0 Z G1 G2 i0 i1 i2 i3 h0 n0 (some (.int (nar .boolean (1 : Int32)))) T902.heap _ := ⟨rfl, N924⟩
              exact own_retN X924 hx hlk (t := .boolean) hrt (by simp) (hb hby at_264) e924 hq925 (by decide) (by decide)
            · refine own_iN 214 X924 hx (hb hby at_211) rfl ((if0 _ _).trans (teq (by decide : ((0 : Int32) = (0 : Int32)))).2) rfl ?_
              refine own_ru 217 [(.int (2 : Int32)), (.int (1 : Int32))] X924 hx hby e0_214_2 rfl rfl ?_
              refine own_kY 228 X924 hx (hb hby at_217) rfl (tlt (by decide : ((1 : Int32) < (2 : Int32)))).1 (by decide) (by decide) ?_
              refine own_ru 231 [(.int (3 : Int32)), (.int (1 : Int32))] X924 hx hby e0_228_2 rfl rfl ?_
              refine own_kY 246 X924 hx (hb hby at_231) rfl (tlt (by decide : ((1 : Int32) < (3 : Int32)))).1 (by decide) (by decide) ?_
              refine own_rl 251 #[.val (.int i0), .val (.int i1), .val (.int i2), .val (.int i3), .val (.int (1 : Int32)), .val (.int r_853), .val (.int r_854), .val (.int r_855), .val (.ref b867), .val (.ref b870), .val (.ref so_902), .val (.int (0 : Int32))] [(.int (0 : Int32))] X924 hx hby e0_246_3 rfl rfl ?_
              refine own_iN 254 X924 hx (hb hby at_251) rfl ((if0 _ _).trans (teq (by decide : ((0 : Int32) = (0 : Int32)))).2) rfl ?_
              as_aux_lemma =>
                exact absurd (by rw [own_nch U853_0]; exact own_nup hp208) hneg
  · as_aux_lemma =>
      refine own_Fin.mono own_narrow ?_
      refine own_rl 25 #[.val (.int i0), .val (.int i1), .val (.int i2), .val (.int i3), .val (.int (2 : Int32)), .val (.int r_853), .val (.int r_854), .val (.int r_855), .unset, .unset, .unset, .unset] [(.int (2 : Int32))] X855 hx hby e0_23_1 rfl rfl ?_
      refine own_iY 36 X855 hx (hb hby at_25) rfl ((if0 _ _).trans (feq (by decide : ¬ ((2 : Int32) = (0 : Int32)))).2) (by decide) (by decide) ?_
      refine own_ru 39 [(.int (1 : Int32)), (.int (2 : Int32))] X855 hx hby e0_36_2 rfl rfl ?_
      refine own_kY 55 X855 hx (hb hby at_39) rfl (feq (by decide : ¬ ((2 : Int32) = (1 : Int32)))).2 (by decide) (by decide) ?_
      refine own_ru 58 [(.int (2 : Int32)), (.int (2 : Int32))] X855 hx hby e0_55_2 rfl rfl ?_
      refine own_kN 61 X855 hx (hb hby at_58) rfl (teq (by decide : ((2 : Int32) = (2 : Int32)))).2 rfl ?_
      refine own_ru 62 [(.int (2 : Int32))] X855 hx hby e0_61_1 rfl rfl ?_
      refine own_nP (aty := .char) X855 hx hZ (wd5 hw) e855 64 (hb hby at_62) rfl rfl (by decide) (cap := 2) (by decide) (by decide) (by decide) (by decide) (ad := "[C") rfl fun T926 h926 k926 b926 g926 X926 e926 E926 A926 B926 => ?_
      have ll926 : @LT.lt Nat _ b926 (Array.size h926) := A926.lt
      have z926 := E926.1
      have V926 : Arv Z h926 b926 k926 .char (2 : Int32) [(.int (0 : Int32)), (.int (0 : Int32))] (.int (0 : Int32)) := (Arv.new A926 (by decide)).pad (pad_rep [] (.int (0 : Int32)) 2)
      refine own_ru 68 [(.int r_853), (.int (0 : Int32)), (.ref b926), (.ref b926)] X926 hx hby e0_64_3 rfl rfl ?_
      obtain ⟨cl927, Ar927, q927, S927, N927z, Hs927, G927⟩ := id V926
      have hin927 : ¬ ((0 : Int32) < 0 ∨ cl927.slots.size ≤ ((0 : Int32)).toNatClampNeg) := inb_of S927 ⟨by decide, by decide⟩
      obtain ⟨T928, h928, X928, e928, W928, st928⟩ := stC X926 hx hZ e926 Ar927 (j := (0 : Int32)) hin927 (g := (mkF m 68 #[.val (.int i0), .val (.int i1), .val (.int i2), .val (.int i3), .val (.int (2 : Int32)), .val (.int r_853), .val (.int r_854), .val (.int r_855), .unset, .unset, .unset, .unset] [(.int r_853), (.int (0 : Int32)), (.ref b926), (.ref b926)])) rfl rfl (hb hby at_68)
      have V928 : Arv Z h928 b926 k926 .char (2 : Int32) [(.int (nar .char r_853)), (.int (0 : Int32))] (.int (0 : Int32)) := Arv.set Ar927 q927 S927 N927z Hs927 G927 (fits_nar_char _) W928 0 rfl (Nat.le_of_ble_eq_true rfl)
      have z928 := W928.size
      have N928 := Fr.snoc X928 N855 (by omega)
      refine own_sT 69 [(.ref b926)] st928 ?_
      refine own_ru 73 [(.int r_854), (.int (1 : Int32)), (.ref b926), (.ref b926)] X928 hx hby e0_69_3 rfl rfl ?_
      obtain ⟨cl929, Ar929, q929, S929, N929z, Hs929, G929⟩ := id V928
      have hin929 : ¬ ((1 : Int32) < 0 ∨ cl929.slots.size ≤ ((1 : Int32)).toNatClampNeg) := inb_of S929 ⟨by decide, by decide⟩
      obtain ⟨T930, h930, X930, e930, W930, st930⟩ := stC X928 hx hZ e928 Ar929 (j := (1 : Int32)) hin929 (g := (mkF m 73 #[.val (.int i0), .val (.int i1), .val (.int i2), .val (.int i3), .val (.int (2 : Int32)), .val (.int r_853), .val (.int r_854), .val (.int r_855), .unset, .unset, .unset, .unset] [(.int r_854), (.int (1 : Int32)), (.ref b926), (.ref b926)])) rfl rfl (hb hby at_73)
      have V930 : Arv Z h930 b926 k926 .char (2 : Int32) [(.int (nar .char r_853)), (.int (nar .char r_854))] (.int (0 : Int32)) := Arv.set Ar929 q929 S929 N929z Hs929 G929 (fits_nar_char _) W930 1 rfl (Nat.le_of_ble_eq_true rfl)
      have z930 := W930.size
      have N930 := Fr.snoc X930 N928 (by omega)
      refine own_sT 74 [(.ref b926)] st930 ?_
      refine own_rl 76 #[.val (.int i0), .val (.int i1), .val (.int i2), .val (.int i3), .val (.int (2 : Int32)), .val (.int r_853), .val (.int r_854), .val (.int r_855), .val (.ref b926), .unset, .unset, .unset] [] X930 hx hby e0_74_1 rfl rfl ?_
      refine own_go 99 X930 hx (hb hby at_76) (by decide) (by decide) ?_
      refine own_nO X930 hx hZ hown (wd6 hw) (wd7 hw) (wd8 hw) e930 102 (hb hby at_99) rfl (by decide) (by decide) fun T931 h931 b931 g931 X931 e931 E931 A931 D931 UN931 => ?_
      have ll931 : @LT.lt Nat _ b931 (Array.size h931) := A931.lt
      have z931 := E931.1
      have F932 : fl2 Z h931 b931 .null := D931 (Or.inr (wd21 hw)) (ty := (.array .byte)) (by decide)
      have F933 : fl0 Z h931 b931 (.int (0 : Int32)) := D931 (Or.inr (wd22 hw)) (ty := .byte) (by decide)
      refine own_ru 105 [(.ref b926), (.ref b931), (.ref b931)] X931 hx hby e0_102_2 rfl rfl ?_
      have f934 := ((((OLD.ext E926).wr W928 (by omega)).wr W930 (by omega)).ext E931)
      have f935 := (V930.ext E931)
      refine own_cN X931 hx hZ hown rfl (wd9 hw) (wd10 hw) (by decide) (wd11 hw) (wd8 hw) (rm2n2 l Z a0 hw [] G1 G2 b931 b926 k926 (nar .char r_853) (nar .char r_854) h931 n0 (by omega) f934 A A931 F932 F933 f935 (by omega) (own_chn _) (own_chn _) (by first | assumption | decide | omega)) e931  [(.ref b926)] [(.ref b931)] 108 1 (hb hby at_105) rfl (by rw [hml]; rfl) rfl rfl (lenOf pd_24 rfl) rfl (by decide) fun v936 T936 Lc936 X936 hQ936 => ?_
      obtain ⟨rfl, N936q, K936, G936_0⟩ := hQ936
      have N936 := Fr.app N930 N936q
      have z936 := K936.1
      refine own_rl 112 #[.val (.int i0), .val (.int i1), .val (.int i2), .val (.int i3), .val (.int (2 : Int32)), .val (.int r_853), .val (.int r_854), .val (.int r_855), .val (.ref b926), .val (.ref b931), .unset, .unset] [(.ref b931)] X936 hx hby e0_108_2 rfl rfl ?_
      rcases G936_0 with ⟨ata, akt, ay0, ay1, af0, af1, af2, af3, ae0, ae1⟩ | ⟨ata, akt, ay0, ay1, az0, az1, af0, af1, af2, af3, ae0, ae1⟩
      · have alt : @LT.lt Nat _ ata (Array.size T936.heap) := af3.lt
        have als : @LT.lt Nat _ b931 (Array.size T936.heap) := af0.lt
        have f937 := (f934.keep K936 (allS (by omega) all0))
        refine own_cS X936 hx hZ hown (wd27 hw) (wd28 hw) (by decide) (wd30 hw) (wd29 hw) (rm5n20 l Z a0 hw [] G1 G2 b931 ata akt (nar .char r_853) (nar .char r_854) ay0 ay1 T936.heap n0 (by omega) f937 A af0 af1 af2 af3 ae0 ae1 (own_chn _) (own_chn _)) rfl  [(.ref b931)] [] 115 0 (hb hby at_112) rfl (by rw [hml]; rfl) rfl rfl (lenOf pd_25 rfl) rfl (by decide) fun v938 T938 Lc938 X938 hQ938 => ?_
        obtain ⟨so_938, rfl, N938q, K938, G938_0⟩ := hQ938
        have N938 := Fr.app N936 N938q
        have z938 := K938.1
        rcases G938_0 with ⟨hso, hl0, hl1⟩ | ⟨hstr, hneg⟩
        · rw [hso]
          refine own_rl 119 #[.val (.int i0), .val (.int i1), .val (.int i2), .val (.int i3), .val (.int (2 : Int32)), .val (.int r_853), .val (.int r_854), .val (.int r_855), .val (.ref b926), .val (.ref b931), .val (.ref b931), .unset] [(.ref b931)] X938 hx hby e0_115_2 rfl rfl ?_
          refine own_st 122 [] (fun t k => XS.ifnullNo X938.here hx rfl (hb hby at_119) rfl k) ?_
          refine own_ru 124 [(.ref b931)] X938 hx hby e0_122_1 rfl rfl ?_
          have f939 := (f937.keep K938 all0)
          have f940 := (Exa.keep af0 K938)
          have f941 := (af1.keep K938 nin0)
          have f942 := (af2.keep K938 nin0)
          have f943 := (af3.keep K938 nin0)
          refine own_cV X938 hx hZ hown (wd42 hw) (wd32 hw) (notFace_of_selects (args := #[]) (mvT hZ (wd34 hw))) (wd34 hw) (wd33 hw) (by decide) (wd35 hw) (wd8 hw) (rm6d0 l Z a0 hw [] G1 G2 b931 ata akt (2 : Int32) [(.int ay0), (.int ay1)] T938.heap n0 (by omega) f939 A f940 f941 f942 f943) rfl f940 [] [] 127 0 (hb hby at_124) rfl (by rw [hml]; rfl) rfl rfl (lenOf pd_20 rfl) rfl (by decide) fun v944 T944 Lc944 X944 hQ944 => ?_
          obtain ⟨rfl, N944q, e944⟩ := hQ944
          have N944 := Fr.app N938 N944q
          refine own_ru 129 [(.int (2 : Int32)), (.int (2 : Int32))] X944 hx hby e0_127_1 rfl rfl ?_
          refine own_kY 134 X944 hx (hb hby at_129) rfl (teq (by decide : ((2 : Int32) = (2 : Int32)))).1 (by decide) (by decide) ?_
          refine own_ru 137 [(.int (1 : Int32)), (.int (2 : Int32))] X944 hx hby e0_134_2 rfl rfl ?_
          refine own_kN 140 X944 hx (hb hby at_137) rfl (flt (by decide : ¬ ((2 : Int32) < (1 : Int32)))).1 rfl ?_
          refine own_ru 143 [(.int (0 : Int32)), (.ref b931)] X944 hx hby e0_140_2 rfl rfl ?_
          refine own_cV X944 hx hZ hown (wd78 hw) (wd54 hw) (notFace_of_selects (args := #[]) (mvT hZ (wd56 hw))) (wd56 hw) (wd55 hw) (by decide) (wd57 hw) (wd8 hw) (rm11l l Z a0 hw [] G1 G2 b931 (0 : Int32) ata akt (2 : Int32) [(.int ay0), (.int ay1)] ay0 T938.heap n0 (by omega) f939 A f940 f941 f942 f943 (by decide) (by decide) rfl) e944 f940 [(.int (0 : Int32))] [] 146 0 (hb hby at_143) rfl (by rw [hml]; rfl) rfl rfl (lenOf pd_21 rfl) rfl (by decide) fun v945 T945 Lc945 X945 hQ945 => ?_
          obtain ⟨rfl, N945q, e945⟩ := hQ945
          have N945 := Fr.app N944 N945q
          refine own_ru 148 [(.int r_853), (.int (own_lc ay0))] X945 hx hby e0_146_1 rfl rfl ?_
          refine own_cS X945 hx hZ hown (wd79 hw) (wd80 hw) (by decide) (wd81 hw) (wd2 hw) (rm17 l Z a0 hw [] r_853 T938.heap n0 (by omega) U853_0) e945  [(.int r_853)] [(.int (own_lc ay0))] 151 1 (hb hby at_148) rfl (by rw [hml]; rfl) rfl rfl (lenOf pd_22 rfl) rfl (by decide) fun v946 T946 Lc946 X946 hQ946 => ?_
          obtain ⟨rfl, N946q, e946⟩ := hQ946
          have N946 := Fr.app N945 N946q
          refine own_kY 156 X946 hx (hb hby at_151) rfl (teq (ae0.trans (hl0.trans (by rw [own_nch U853_0])))).1 (by decide) (by decide) ?_
          refine own_ru 159 [(.int (2 : Int32)), (.int (2 : Int32))] X946 hx hby e0_156_2 rfl rfl ?_
          refine own_kN 162 X946 hx (hb hby at_159) rfl (flt (by decide : ¬ ((2 : Int32) < (2 : Int32)))).1 rfl ?_
          refine own_ru 165 [(.int (1 : Int32)), (.ref b931)] X946 hx hby e0_162_2 rfl rfl ?_
          refine own_cV X946 hx hZ hown (wd78 hw) (wd54 hw) (notFace_of_selects (args := #[]) (mvT hZ (wd56 hw))) (wd56 hw) (wd55 hw) (by decide) (wd57 hw) (wd8 hw) (rm11l l Z a0 hw [] G1 G2 b931 (1 : Int32) ata akt (2 : Int32) [(.int ay0), (.int ay1)] ay1 T938.heap n0 (by omega) f939 A f940 f941 f942 f943 (by decide) (by decide) rfl) e946 f940 [(.int (1 : Int32))] [] 168 0 (hb hby at_165) rfl (by rw [hml]; rfl) rfl rfl (lenOf pd_21 rfl) rfl (by decide) fun v947 T947 Lc947 X947 hQ947 => ?_
          obtain ⟨rfl, N947q, e947⟩ := hQ947
          have N947 := Fr.app N946 N947q
          refine own_ru 170 [(.int r_854), (.int (own_lc ay1))] X947 hx hby e0_168_1 rfl rfl ?_
          refine own_cS X947 hx hZ hown (wd79 hw) (wd80 hw) (by decide) (wd81 hw) (wd2 hw) (rm17 l Z a0 hw [] r_854 T938.heap n0 (by omega) U854_0) e947  [(.int r_854)] [(.int (own_lc ay1))] 173 1 (hb hby at_170) rfl (by rw [hml]; rfl) rfl rfl (lenOf pd_22 rfl) rfl (by decide) fun v948 T948 Lc948 X948 hQ948 => ?_
          obtain ⟨rfl, N948q, e948⟩ := hQ948
          have N948 := Fr.app N947 N948q
          refine own_kY 178 X948 hx (hb hby at_173) rfl (teq (ae1.trans (hl1.trans (by rw [own_nch U854_0])))).1 (by decide) (by decide) ?_
          refine own_ru 181 [(.int (3 : Int32)), (.int (2 : Int32))] X948 hx hby e0_178_2 rfl rfl ?_
          refine own_kY 200 X948 hx (hb hby at_181) rfl (tlt (by decide : ((2 : Int32) < (3 : Int32)))).1 (by decide) (by decide) ?_
          refine own_ru 203 [(.int (1 : Int32)), (.int (2 : Int32))] X948 hx hby e0_200_2 rfl rfl ?_
          refine own_kN 206 X948 hx (hb hby at_203) rfl (flt (by decide : ¬ ((2 : Int32) < (1 : Int32)))).1 rfl ?_
          as_aux_lemma =>
            refine own_ru 208 [(.int r_853)] X948 hx hby e0_206_1 rfl rfl ?_
            refine own_cS X948 hx hZ hown (wd82 hw) (wd83 hw) (by decide) (wd84 hw) (wd2 hw) (rm18 l Z a0 hw [] r_853 T938.heap n0 (by omega) ) e948  [(.int r_853)] [] 211 0 (hb hby at_208) rfl (by rw [hml]; rfl) rfl rfl (lenOf pd_26 rfl) rfl (by decide) fun v949 T949 Lc949 X949 hQ949 => ?_
            obtain ⟨hvc949, N949q, e949⟩ := hQ949
            have N949 := Fr.app N948 N949q
            rcases hvc949 with ⟨rfl, hp208⟩ | ⟨rfl, hp208⟩
            · refine own_iY 242 X949 hx (hb hby at_211) rfl ((if0 _ _).trans (feq (by decide : ¬ ((1 : Int32) = (0 : Int32)))).2) (by decide) (by decide) ?_
              refine own_ru 243 [(.int (1 : Int32))] X949 hx hby e0_242_1 rfl rfl ?_
              refine own_go 247 X949 hx (hb hby at_243) (by decide) (by decide) ?_
              refine own_rl 251 #[.val (.int i0), .val (.int i1), .val (.int i2), .val (.int i3), .val (.int (2 : Int32)), .val (.int r_853), .val (.int r_854), .val (.int r_855), .val (.ref b926), .val (.ref b931), .val (.ref b931), .val (.int (1 : Int32))] [(.int (1 : Int32))] X949 hx hby e0_247_2 rfl rfl ?_
              refine own_iY 263 X949 hx (hb hby at_251) rfl ((if0 _ _).trans (feq (by decide : ¬ ((1 : Int32) = (0 : Int32)))).2) (by decide) (by decide) ?_
              refine own_ru 264 [(.int (1 : Int32))] X949 hx hby e0_263_1 rfl rfl ?_
              have hq950 : Q0 Z G1 G2 i0 i1 i2 i3 h0 n0 (some (.int (nar .boolean (1 : Int32)))) T938.heap _ := ⟨rfl, N949⟩
              exact own_retN X949 hx hlk (t := .boolean) hrt (by simp) (hb hby at_264) e949 hq950 (by decide) (by decide)
            · refine own_iN 214 X949 hx (hb hby at_211) rfl ((if0 _ _).trans (teq (by decide : ((0 : Int32) = (0 : Int32)))).2) rfl ?_
              refine own_ru 217 [(.int (2 : Int32)), (.int (2 : Int32))] X949 hx hby e0_214_2 rfl rfl ?_
              refine own_kN 220 X949 hx (hb hby at_217) rfl (flt (by decide : ¬ ((2 : Int32) < (2 : Int32)))).1 rfl ?_
              refine own_ru 222 [(.int r_854)] X949 hx hby e0_220_1 rfl rfl ?_
              refine own_cS X949 hx hZ hown (wd82 hw) (wd83 hw) (by decide) (wd84 hw) (wd2 hw) (rm18 l Z a0 hw [] r_854 T938.heap n0 (by omega) ) e949  [(.int r_854)] [] 225 0 (hb hby at_222) rfl (by rw [hml]; rfl) rfl rfl (lenOf pd_26 rfl) rfl (by decide) fun v951 T951 Lc951 X951 hQ951 => ?_
              obtain ⟨hvc951, N951q, e951⟩ := hQ951
              have N951 := Fr.app N949 N951q
              rcases hvc951 with ⟨rfl, hp222⟩ | ⟨rfl, hp222⟩
              · refine own_iY 242 X951 hx (hb hby at_225) rfl ((if0 _ _).trans (feq (by decide : ¬ ((1 : Int32) = (0 : Int32)))).2) (by decide) (by decide) ?_
                refine own_ru 243 [(.int (1 : Int32))] X951 hx hby e0_242_1 rfl rfl ?_
                refine own_go 247 X951 hx (hb hby at_243) (by decide) (by decide) ?_
                refine own_rl 251 #[.val (.int i0), .val (.int i1), .val (.int i2), .val (.int i3), .val (.int (2 : Int32)), .val (.int r_853), .val (.int r_854), .val (.int r_855), .val (.ref b926), .val (.ref b931), .val (.ref b931), .val (.int (1 : Int32))] [(.int (1 : Int32))] X951 hx hby e0_247_2 rfl rfl ?_
                refine own_iY 263 X951 hx (hb hby at_251) rfl ((if0 _ _).trans (feq (by decide : ¬ ((1 : Int32) = (0 : Int32)))).2) (by decide) (by decide) ?_
                refine own_ru 264 [(.int (1 : Int32))] X951 hx hby e0_263_1 rfl rfl ?_
                have hq952 : Q0 Z G1 G2 i0 i1 i2 i3 h0 n0 (some (.int (nar .boolean (1 : Int32)))) T938.heap _ := ⟨rfl, N951⟩
                exact own_retN X951 hx hlk (t := .boolean) hrt (by simp) (hb hby at_264) e951 hq952 (by decide) (by decide)
              · refine own_iN 228 X951 hx (hb hby at_225) rfl ((if0 _ _).trans (teq (by decide : ((0 : Int32) = (0 : Int32)))).2) rfl ?_
                refine own_ru 231 [(.int (3 : Int32)), (.int (2 : Int32))] X951 hx hby e0_228_2 rfl rfl ?_
                refine own_kY 246 X951 hx (hb hby at_231) rfl (tlt (by decide : ((2 : Int32) < (3 : Int32)))).1 (by decide) (by decide) ?_
                refine own_rl 251 #[.val (.int i0), .val (.int i1), .val (.int i2), .val (.int i3), .val (.int (2 : Int32)), .val (.int r_853), .val (.int r_854), .val (.int r_855), .val (.ref b926), .val (.ref b931), .val (.ref b931), .val (.int (0 : Int32))] [(.int (0 : Int32))] X951 hx hby e0_246_3 rfl rfl ?_
                refine own_iN 254 X951 hx (hb hby at_251) rfl ((if0 _ _).trans (teq (by decide : ((0 : Int32) = (0 : Int32)))).2) rfl ?_
                refine own_ru 258 [(.ref b931), (.ref b931)] X951 hx hby e0_254_2 rfl rfl ?_
                refine own_st 263 [] (fun t k => Jvm.RoadKit.acmp (g := (mkF m 258 #[.val (.int i0), .val (.int i1), .val (.int i2), .val (.int i3), .val (.int (2 : Int32)), .val (.int r_853), .val (.int r_854), .val (.int r_855), .val (.ref b926), .val (.ref b931), .val (.ref b931), .val (.int (0 : Int32))] [(.ref b931), (.ref b931)])) X951 hx rfl rfl rfl (pc0 := 258) (pc' := 263) (same := true) rfl (hb hby at_258) rfl (decide_eq_true rfl) (by decide) (by decide) k) ?_
                refine own_ru 264 [(.int (1 : Int32))] X951 hx hby e0_263_1 rfl rfl ?_
                have hq953 : Q0 Z G1 G2 i0 i1 i2 i3 h0 n0 (some (.int (nar .boolean (1 : Int32)))) T938.heap _ := ⟨rfl, N951⟩
                exact own_retN X951 hx hlk (t := .boolean) hrt (by simp) (hb hby at_264) e951 hq953 (by decide) (by decide)
        · rcases hstr with ⟨bta, bkt, by0, by1, bf0, bf1, bf2, bf3, be0, be1⟩ | ⟨bta, bkt, by0, by1, bz0, bz1, bf0, bf1, bf2, bf3, be0, be1⟩
          · have blt : @LT.lt Nat _ bta (Array.size T938.heap) := bf3.lt
            have bls : @LT.lt Nat _ so_938 (Array.size T938.heap) := bf0.lt
            refine own_rl 119 #[.val (.int i0), .val (.int i1), .val (.int i2), .val (.int i3), .val (.int (2 : Int32)), .val (.int r_853), .val (.int r_854), .val (.int r_855), .val (.ref b926), .val (.ref b931), .val (.ref so_938), .unset] [(.ref so_938)] X938 hx hby e0_115_2 rfl rfl ?_
            refine own_st 122 [] (fun t k => XS.ifnullNo X938.here hx rfl (hb hby at_119) rfl k) ?_
            refine own_ru 124 [(.ref so_938)] X938 hx hby e0_122_1 rfl rfl ?_
            have f954 := (f937.keep K938 all0)
            refine own_cV X938 hx hZ hown (wd42 hw) (wd32 hw) (notFace_of_selects (args := #[]) (mvT hZ (wd34 hw))) (wd34 hw) (wd33 hw) (by decide) (wd35 hw) (wd8 hw) (rm6d0 l Z a0 hw [] G1 G2 so_938 bta bkt (2 : Int32) [(.int by0), (.int by1)] T938.heap n0 (by omega) f954 A bf0 bf1 bf2 bf3) rfl bf0 [] [] 127 0 (hb hby at_124) rfl (by rw [hml]; rfl) rfl rfl (lenOf pd_20 rfl) rfl (by decide) fun v955 T955 Lc955 X955 hQ955 => ?_
            obtain ⟨rfl, N955q, e955⟩ := hQ955
            have N955 := Fr.app N938 N955q
            refine own_ru 129 [(.int (2 : Int32)), (.int (2 : Int32))] X955 hx hby e0_127_1 rfl rfl ?_
            refine own_kY 134 X955 hx (hb hby at_129) rfl (teq (by decide : ((2 : Int32) = (2 : Int32)))).1 (by decide) (by decide) ?_
            refine own_ru 137 [(.int (1 : Int32)), (.int (2 : Int32))] X955 hx hby e0_134_2 rfl rfl ?_
            refine own_kN 140 X955 hx (hb hby at_137) rfl (flt (by decide : ¬ ((2 : Int32) < (1 : Int32)))).1 rfl ?_
            refine own_ru 143 [(.int (0 : Int32)), (.ref so_938)] X955 hx hby e0_140_2 rfl rfl ?_
            refine own_cV X955 hx hZ hown (wd78 hw) (wd54 hw) (notFace_of_selects (args := #[]) (mvT hZ (wd56 hw))) (wd56 hw) (wd55 hw) (by decide) (wd57 hw) (wd8 hw) (rm11l l Z a0 hw [] G1 G2 so_938 (0 : Int32) bta bkt (2 : Int32) [(.int by0), (.int by1)] by0 T938.heap n0 (by omega) f954 A bf0 bf1 bf2 bf3 (by decide) (by decide) rfl) e955 bf0 [(.int (0 : Int32))] [] 146 0 (hb hby at_143) rfl (by rw [hml]; rfl) rfl rfl (lenOf pd_21 rfl) rfl (by decide) fun v956 T956 Lc956 X956 hQ956 => ?_
            obtain ⟨rfl, N956q, e956⟩ := hQ956
            have N956 := Fr.app N955 N956q
            refine own_ru 148 [(.int r_853), (.int (own_lc by0))] X956 hx hby e0_146_1 rfl rfl ?_
            refine own_cS X956 hx hZ hown (wd79 hw) (wd80 hw) (by decide) (wd81 hw) (wd2 hw) (rm17 l Z a0 hw [] r_853 T938.heap n0 (by omega) U853_0) e956  [(.int r_853)] [(.int (own_lc by0))] 151 1 (hb hby at_148) rfl (by rw [hml]; rfl) rfl rfl (lenOf pd_22 rfl) rfl (by decide) fun v957 T957 Lc957 X957 hQ957 => ?_
            obtain ⟨rfl, N957q, e957⟩ := hQ957
            have N957 := Fr.app N956 N957q
            refine own_kY 156 X957 hx (hb hby at_151) rfl (teq (be0.trans (by rw [own_nch U853_0]))).1 (by decide) (by decide) ?_
            refine own_ru 159 [(.int (2 : Int32)), (.int (2 : Int32))] X957 hx hby e0_156_2 rfl rfl ?_
            refine own_kN 162 X957 hx (hb hby at_159) rfl (flt (by decide : ¬ ((2 : Int32) < (2 : Int32)))).1 rfl ?_
            refine own_ru 165 [(.int (1 : Int32)), (.ref so_938)] X957 hx hby e0_162_2 rfl rfl ?_
            refine own_cV X957 hx hZ hown (wd78 hw) (wd54 hw) (notFace_of_selects (args := #[]) (mvT hZ (wd56 hw))) (wd56 hw) (wd55 hw) (by decide) (wd57 hw) (wd8 hw) (rm11l l Z a0 hw [] G1 G2 so_938 (1 : Int32) bta bkt (2 : Int32) [(.int by0), (.int by1)] by1 T938.heap n0 (by omega) f954 A bf0 bf1 bf2 bf3 (by decide) (by decide) rfl) e957 bf0 [(.int (1 : Int32))] [] 168 0 (hb hby at_165) rfl (by rw [hml]; rfl) rfl rfl (lenOf pd_21 rfl) rfl (by decide) fun v958 T958 Lc958 X958 hQ958 => ?_
            obtain ⟨rfl, N958q, e958⟩ := hQ958
            have N958 := Fr.app N957 N958q
            refine own_ru 170 [(.int r_854), (.int (own_lc by1))] X958 hx hby e0_168_1 rfl rfl ?_
            refine own_cS X958 hx hZ hown (wd79 hw) (wd80 hw) (by decide) (wd81 hw) (wd2 hw) (rm17 l Z a0 hw [] r_854 T938.heap n0 (by omega) U854_0) e958  [(.int r_854)] [(.int (own_lc by1))] 173 1 (hb hby at_170) rfl (by rw [hml]; rfl) rfl rfl (lenOf pd_22 rfl) rfl (by decide) fun v959 T959 Lc959 X959 hQ959 => ?_
            obtain ⟨rfl, N959q, e959⟩ := hQ959
            have N959 := Fr.app N958 N959q
            refine own_kY 178 X959 hx (hb hby at_173) rfl (teq (be1.trans (by rw [own_nch U854_0]))).1 (by decide) (by decide) ?_
            refine own_ru 181 [(.int (3 : Int32)), (.int (2 : Int32))] X959 hx hby e0_178_2 rfl rfl ?_
            refine own_kY 200 X959 hx (hb hby at_181) rfl (tlt (by decide : ((2 : Int32) < (3 : Int32)))).1 (by decide) (by decide) ?_
            refine own_ru 203 [(.int (1 : Int32)), (.int (2 : Int32))] X959 hx hby e0_200_2 rfl rfl ?_
            refine own_kN 206 X959 hx (hb hby at_203) rfl (flt (by decide : ¬ ((2 : Int32) < (1 : Int32)))).1 rfl ?_
            as_aux_lemma =>
              refine own_ru 208 [(.int r_853)] X959 hx hby e0_206_1 rfl rfl ?_
              refine own_cS X959 hx hZ hown (wd82 hw) (wd83 hw) (by decide) (wd84 hw) (wd2 hw) (rm18 l Z a0 hw [] r_853 T938.heap n0 (by omega) ) e959  [(.int r_853)] [] 211 0 (hb hby at_208) rfl (by rw [hml]; rfl) rfl rfl (lenOf pd_26 rfl) rfl (by decide) fun v960 T960 Lc960 X960 hQ960 => ?_
              obtain ⟨hvc960, N960q, e960⟩ := hQ960
              have N960 := Fr.app N959 N960q
              rcases hvc960 with ⟨rfl, hp208⟩ | ⟨rfl, hp208⟩
              · refine own_iY 242 X960 hx (hb hby at_211) rfl ((if0 _ _).trans (feq (by decide : ¬ ((1 : Int32) = (0 : Int32)))).2) (by decide) (by decide) ?_
                refine own_ru 243 [(.int (1 : Int32))] X960 hx hby e0_242_1 rfl rfl ?_
                refine own_go 247 X960 hx (hb hby at_243) (by decide) (by decide) ?_
                refine own_rl 251 #[.val (.int i0), .val (.int i1), .val (.int i2), .val (.int i3), .val (.int (2 : Int32)), .val (.int r_853), .val (.int r_854), .val (.int r_855), .val (.ref b926), .val (.ref b931), .val (.ref so_938), .val (.int (1 : Int32))] [(.int (1 : Int32))] X960 hx hby e0_247_2 rfl rfl ?_
                refine own_iY 263 X960 hx (hb hby at_251) rfl ((if0 _ _).trans (feq (by decide : ¬ ((1 : Int32) = (0 : Int32)))).2) (by decide) (by decide) ?_
                refine own_ru 264 [(.int (1 : Int32))] X960 hx hby e0_263_1 rfl rfl ?_
                have hq961 : Q0 Z G1 G2 i0 i1 i2 i3 h0 n0 (some (.int (nar .boolean (1 : Int32)))) T938.heap _ := ⟨rfl, N960⟩
                exact own_retN X960 hx hlk (t := .boolean) hrt (by simp) (hb hby at_264) e960 hq961 (by decide) (by decide)
              · refine own_iN 214 X960 hx (hb hby at_211) rfl ((if0 _ _).trans (teq (by decide : ((0 : Int32) = (0 : Int32)))).2) rfl ?_
                refine own_ru 217 [(.int (2 : Int32)), (.int (2 : Int32))] X960 hx hby e0_214_2 rfl rfl ?_
                refine own_kN 220 X960 hx (hb hby at_217) rfl (flt (by decide : ¬ ((2 : Int32) < (2 : Int32)))).1 rfl ?_
                refine own_ru 222 [(.int r_854)] X960 hx hby e0_220_1 rfl rfl ?_
                refine own_cS X960 hx hZ hown (wd82 hw) (wd83 hw) (by decide) (wd84 hw) (wd2 hw) (rm18 l Z a0 hw [] r_854 T938.heap n0 (by omega) ) e960  [(.int r_854)] [] 225 0 (hb hby at_222) rfl (by rw [hml]; rfl) rfl rfl (lenOf pd_26 rfl) rfl (by decide) fun v962 T962 Lc962 X962 hQ962 => ?_
                obtain ⟨hvc962, N962q, e962⟩ := hQ962
                have N962 := Fr.app N960 N962q
                rcases hvc962 with ⟨rfl, hp222⟩ | ⟨rfl, hp222⟩
                · refine own_iY 242 X962 hx (hb hby at_225) rfl ((if0 _ _).trans (feq (by decide : ¬ ((1 : Int32) = (0 : Int32)))).2) (by decide) (by decide) ?_
                  refine own_ru 243 [(.int (1 : Int32))] X962 hx hby e0_242_1 rfl rfl ?_
                  refine own_go 247 X962 hx (hb hby at_243) (by decide) (by decide) ?_
                  refine own_rl 251 #[.val (.int i0), .val (.int i1), .val (.int i2), .val (.int i3), .val (.int (2 : Int32)), .val (.int r_853), .val (.int r_854), .val (.int r_855), .val (.ref b926), .val (.ref b931), .val (.ref so_938), .val (.int (1 : Int32))] [(.int (1 : Int32))] X962 hx hby e0_247_2 rfl rfl ?_
                  refine own_iY 263 X962 hx (hb hby at_251) rfl ((if0 _ _).trans (feq (by decide : ¬ ((1 : Int32) = (0 : Int32)))).2) (by decide) (by decide) ?_
                  refine own_ru 264 [(.int (1 : Int32))] X962 hx hby e0_263_1 rfl rfl ?_
                  have hq963 : Q0 Z G1 G2 i0 i1 i2 i3 h0 n0 (some (.int (nar .boolean (1 : Int32)))) T938.heap _ := ⟨rfl, N962⟩
                  exact own_retN X962 hx hlk (t := .boolean) hrt (by simp) (hb hby at_264) e962 hq963 (by decide) (by decide)
                · refine own_iN 228 X962 hx (hb hby at_225) rfl ((if0 _ _).trans (teq (by decide : ((0 : Int32) = (0 : Int32)))).2) rfl ?_
                  refine own_ru 231 [(.int (3 : Int32)), (.int (2 : Int32))] X962 hx hby e0_228_2 rfl rfl ?_
                  refine own_kY 246 X962 hx (hb hby at_231) rfl (tlt (by decide : ((2 : Int32) < (3 : Int32)))).1 (by decide) (by decide) ?_
                  refine own_rl 251 #[.val (.int i0), .val (.int i1), .val (.int i2), .val (.int i3), .val (.int (2 : Int32)), .val (.int r_853), .val (.int r_854), .val (.int r_855), .val (.ref b926), .val (.ref b931), .val (.ref so_938), .val (.int (0 : Int32))] [(.int (0 : Int32))] X962 hx hby e0_246_3 rfl rfl ?_
                  refine own_iN 254 X962 hx (hb hby at_251) rfl ((if0 _ _).trans (teq (by decide : ((0 : Int32) = (0 : Int32)))).2) rfl ?_
                  exact absurd ⟨(by rw [own_nch U853_0]; exact own_nup hp208), (by rw [own_nch U854_0]; exact own_nup hp222)⟩ hneg
          · have blt : @LT.lt Nat _ bta (Array.size T938.heap) := bf3.lt
            have bls : @LT.lt Nat _ so_938 (Array.size T938.heap) := bf0.lt
            refine own_rl 119 #[.val (.int i0), .val (.int i1), .val (.int i2), .val (.int i3), .val (.int (2 : Int32)), .val (.int r_853), .val (.int r_854), .val (.int r_855), .val (.ref b926), .val (.ref b931), .val (.ref so_938), .unset] [(.ref so_938)] X938 hx hby e0_115_2 rfl rfl ?_
            refine own_st 122 [] (fun t k => XS.ifnullNo X938.here hx rfl (hb hby at_119) rfl k) ?_
            refine own_ru 124 [(.ref so_938)] X938 hx hby e0_122_1 rfl rfl ?_
            have f964 := (f937.keep K938 all0)
            refine own_cV X938 hx hZ hown (wd42 hw) (wd32 hw) (notFace_of_selects (args := #[]) (mvT hZ (wd34 hw))) (wd34 hw) (wd33 hw) (by decide) (wd35 hw) (wd8 hw) (rm6d1 l Z a0 hw [] G1 G2 so_938 bta bkt (4 : Int32) [(.int by0), (.int bz0), (.int by1), (.int bz1)] T938.heap n0 (by omega) f964 A bf0 bf1 bf2 bf3) rfl bf0 [] [] 127 0 (hb hby at_124) rfl (by rw [hml]; rfl) rfl rfl (lenOf pd_20 rfl) rfl (by decide) fun v965 T965 Lc965 X965 hQ965 => ?_
            obtain ⟨rfl, N965q, e965⟩ := hQ965
            have N965 := Fr.app N938 N965q
            refine own_ru 129 [(.int (2 : Int32)), (.int (2 : Int32))] X965 hx hby e0_127_1 rfl rfl ?_
            refine own_kY 134 X965 hx (hb hby at_129) rfl (teq (by decide : ((2 : Int32) = (2 : Int32)))).1 (by decide) (by decide) ?_
            refine own_ru 137 [(.int (1 : Int32)), (.int (2 : Int32))] X965 hx hby e0_134_2 rfl rfl ?_
            refine own_kN 140 X965 hx (hb hby at_137) rfl (flt (by decide : ¬ ((2 : Int32) < (1 : Int32)))).1 rfl ?_
            refine own_ru 143 [(.int (0 : Int32)), (.ref so_938)] X965 hx hby e0_140_2 rfl rfl ?_
            refine own_cV X965 hx hZ hown (wd78 hw) (wd54 hw) (notFace_of_selects (args := #[]) (mvT hZ (wd56 hw))) (wd56 hw) (wd55 hw) (by decide) (wd57 hw) (wd8 hw) (rm11u l Z a0 hw [] G1 G2 so_938 (0 : Int32) bta bkt (4 : Int32) [(.int by0), (.int bz0), (.int by1), (.int bz1)] by0 bz0 T938.heap n0 (by omega) f964 A bf0 bf1 bf2 bf3 (by decide) (by decide) ⟨by decide, by decide⟩ ⟨by decide, by decide⟩ rfl rfl) e965 bf0 [(.int (0 : Int32))] [] 146 0 (hb hby at_143) rfl (by rw [hml]; rfl) rfl rfl (lenOf pd_21 rfl) rfl (by decide) fun v966 T966 Lc966 X966 hQ966 => ?_
            obtain ⟨rfl, N966q, e966⟩ := hQ966
            have N966 := Fr.app N965 N966q
            refine own_ru 148 [(.int r_853), (.int (own_u by0 bz0))] X966 hx hby e0_146_1 rfl rfl ?_
            refine own_cS X966 hx hZ hown (wd79 hw) (wd80 hw) (by decide) (wd81 hw) (wd2 hw) (rm17 l Z a0 hw [] r_853 T938.heap n0 (by omega) U853_0) e966  [(.int r_853)] [(.int (own_u by0 bz0))] 151 1 (hb hby at_148) rfl (by rw [hml]; rfl) rfl rfl (lenOf pd_22 rfl) rfl (by decide) fun v967 T967 Lc967 X967 hQ967 => ?_
            obtain ⟨rfl, N967q, e967⟩ := hQ967
            have N967 := Fr.app N966 N967q
            refine own_kY 156 X967 hx (hb hby at_151) rfl (teq (be0.trans (by rw [own_nch U853_0]))).1 (by decide) (by decide) ?_
            refine own_ru 159 [(.int (2 : Int32)), (.int (2 : Int32))] X967 hx hby e0_156_2 rfl rfl ?_
            refine own_kN 162 X967 hx (hb hby at_159) rfl (flt (by decide : ¬ ((2 : Int32) < (2 : Int32)))).1 rfl ?_
            refine own_ru 165 [(.int (1 : Int32)), (.ref so_938)] X967 hx hby e0_162_2 rfl rfl ?_
            refine own_cV X967 hx hZ hown (wd78 hw) (wd54 hw) (notFace_of_selects (args := #[]) (mvT hZ (wd56 hw))) (wd56 hw) (wd55 hw) (by decide) (wd57 hw) (wd8 hw) (rm11u l Z a0 hw [] G1 G2 so_938 (1 : Int32) bta bkt (4 : Int32) [(.int by0), (.int bz0), (.int by1), (.int bz1)] by1 bz1 T938.heap n0 (by omega) f964 A bf0 bf1 bf2 bf3 (by decide) (by decide) ⟨by decide, by decide⟩ ⟨by decide, by decide⟩ rfl rfl) e967 bf0 [(.int (1 : Int32))] [] 168 0 (hb hby at_165) rfl (by rw [hml]; rfl) rfl rfl (lenOf pd_21 rfl) rfl (by decide) fun v968 T968 Lc968 X968 hQ968 => ?_
            obtain ⟨rfl, N968q, e968⟩ := hQ968
            have N968 := Fr.app N967 N968q
            refine own_ru 170 [(.int r_854), (.int (own_u by1 bz1))] X968 hx hby e0_168_1 rfl rfl ?_
            refine own_cS X968 hx hZ hown (wd79 hw) (wd80 hw) (by decide) (wd81 hw) (wd2 hw) (rm17 l Z a0 hw [] r_854 T938.heap n0 (by omega) U854_0) e968  [(.int r_854)] [(.int (own_u by1 bz1))] 173 1 (hb hby at_170) rfl (by rw [hml]; rfl) rfl rfl (lenOf pd_22 rfl) rfl (by decide) fun v969 T969 Lc969 X969 hQ969 => ?_
            obtain ⟨rfl, N969q, e969⟩ := hQ969
            have N969 := Fr.app N968 N969q
            refine own_kY 178 X969 hx (hb hby at_173) rfl (teq (be1.trans (by rw [own_nch U854_0]))).1 (by decide) (by decide) ?_
            refine own_ru 181 [(.int (3 : Int32)), (.int (2 : Int32))] X969 hx hby e0_178_2 rfl rfl ?_
            refine own_kY 200 X969 hx (hb hby at_181) rfl (tlt (by decide : ((2 : Int32) < (3 : Int32)))).1 (by decide) (by decide) ?_
            refine own_ru 203 [(.int (1 : Int32)), (.int (2 : Int32))] X969 hx hby e0_200_2 rfl rfl ?_
            refine own_kN 206 X969 hx (hb hby at_203) rfl (flt (by decide : ¬ ((2 : Int32) < (1 : Int32)))).1 rfl ?_
            as_aux_lemma =>
              refine own_ru 208 [(.int r_853)] X969 hx hby e0_206_1 rfl rfl ?_
              refine own_cS X969 hx hZ hown (wd82 hw) (wd83 hw) (by decide) (wd84 hw) (wd2 hw) (rm18 l Z a0 hw [] r_853 T938.heap n0 (by omega) ) e969  [(.int r_853)] [] 211 0 (hb hby at_208) rfl (by rw [hml]; rfl) rfl rfl (lenOf pd_26 rfl) rfl (by decide) fun v970 T970 Lc970 X970 hQ970 => ?_
              obtain ⟨hvc970, N970q, e970⟩ := hQ970
              have N970 := Fr.app N969 N970q
              rcases hvc970 with ⟨rfl, hp208⟩ | ⟨rfl, hp208⟩
              · refine own_iY 242 X970 hx (hb hby at_211) rfl ((if0 _ _).trans (feq (by decide : ¬ ((1 : Int32) = (0 : Int32)))).2) (by decide) (by decide) ?_
                refine own_ru 243 [(.int (1 : Int32))] X970 hx hby e0_242_1 rfl rfl ?_
                refine own_go 247 X970 hx (hb hby at_243) (by decide) (by decide) ?_
                refine own_rl 251 #[.val (.int i0), .val (.int i1), .val (.int i2), .val (.int i3), .val (.int (2 : Int32)), .val (.int r_853), .val (.int r_854), .val (.int r_855), .val (.ref b926), .val (.ref b931), .val (.ref so_938), .val (.int (1 : Int32))] [(.int (1 : Int32))] X970 hx hby e0_247_2 rfl rfl ?_
                refine own_iY 263 X970 hx (hb hby at_251) rfl ((if0 _ _).trans (feq (by decide : ¬ ((1 : Int32) = (0 : Int32)))).2) (by decide) (by decide) ?_
                refine own_ru 264 [(.int (1 : Int32))] X970 hx hby e0_263_1 rfl rfl ?_
                have hq971 : Q0 Z G1 G2 i0 i1 i2 i3 h0 n0 (some (.int (nar .boolean (1 : Int32)))) T938.heap _ := ⟨rfl, N970⟩
                exact own_retN X970 hx hlk (t := .boolean) hrt (by simp) (hb hby at_264) e970 hq971 (by decide) (by decide)
              · refine own_iN 214 X970 hx (hb hby at_211) rfl ((if0 _ _).trans (teq (by decide : ((0 : Int32) = (0 : Int32)))).2) rfl ?_
                refine own_ru 217 [(.int (2 : Int32)), (.int (2 : Int32))] X970 hx hby e0_214_2 rfl rfl ?_
                refine own_kN 220 X970 hx (hb hby at_217) rfl (flt (by decide : ¬ ((2 : Int32) < (2 : Int32)))).1 rfl ?_
                refine own_ru 222 [(.int r_854)] X970 hx hby e0_220_1 rfl rfl ?_
                refine own_cS X970 hx hZ hown (wd82 hw) (wd83 hw) (by decide) (wd84 hw) (wd2 hw) (rm18 l Z a0 hw [] r_854 T938.heap n0 (by omega) ) e970  [(.int r_854)] [] 225 0 (hb hby at_222) rfl (by rw [hml]; rfl) rfl rfl (lenOf pd_26 rfl) rfl (by decide) fun v972 T972 Lc972 X972 hQ972 => ?_
                obtain ⟨hvc972, N972q, e972⟩ := hQ972
                have N972 := Fr.app N970 N972q
                rcases hvc972 with ⟨rfl, hp222⟩ | ⟨rfl, hp222⟩
                · refine own_iY 242 X972 hx (hb hby at_225) rfl ((if0 _ _).trans (feq (by decide : ¬ ((1 : Int32) = (0 : Int32)))).2) (by decide) (by decide) ?_
                  refine own_ru 243 [(.int (1 : Int32))] X972 hx hby e0_242_1 rfl rfl ?_
                  refine own_go 247 X972 hx (hb hby at_243) (by decide) (by decide) ?_
                  refine own_rl 251 #[.val (.int i0), .val (.int i1), .val (.int i2), .val (.int i3), .val (.int (2 : Int32)), .val (.int r_853), .val (.int r_854), .val (.int r_855), .val (.ref b926), .val (.ref b931), .val (.ref so_938), .val (.int (1 : Int32))] [(.int (1 : Int32))] X972 hx hby e0_247_2 rfl rfl ?_
                  refine own_iY 263 X972 hx (hb hby at_251) rfl ((if0 _ _).trans (feq (by decide : ¬ ((1 : Int32) = (0 : Int32)))).2) (by decide) (by decide) ?_
                  refine own_ru 264 [(.int (1 : Int32))] X972 hx hby e0_263_1 rfl rfl ?_
                  have hq973 : Q0 Z G1 G2 i0 i1 i2 i3 h0 n0 (some (.int (nar .boolean (1 : Int32)))) T938.heap _ := ⟨rfl, N972⟩
                  exact own_retN X972 hx hlk (t := .boolean) hrt (by simp) (hb hby at_264) e972 hq973 (by decide) (by decide)
                · refine own_iN 228 X972 hx (hb hby at_225) rfl ((if0 _ _).trans (teq (by decide : ((0 : Int32) = (0 : Int32)))).2) rfl ?_
                  refine own_ru 231 [(.int (3 : Int32)), (.int (2 : Int32))] X972 hx hby e0_228_2 rfl rfl ?_
                  refine own_kY 246 X972 hx (hb hby at_231) rfl (tlt (by decide : ((2 : Int32) < (3 : Int32)))).1 (by decide) (by decide) ?_
                  refine own_rl 251 #[.val (.int i0), .val (.int i1), .val (.int i2), .val (.int i3), .val (.int (2 : Int32)), .val (.int r_853), .val (.int r_854), .val (.int r_855), .val (.ref b926), .val (.ref b931), .val (.ref so_938), .val (.int (0 : Int32))] [(.int (0 : Int32))] X972 hx hby e0_246_3 rfl rfl ?_
                  refine own_iN 254 X972 hx (hb hby at_251) rfl ((if0 _ _).trans (teq (by decide : ((0 : Int32) = (0 : Int32)))).2) rfl ?_
                  exact absurd ⟨(by rw [own_nch U853_0]; exact own_nup hp208), (by rw [own_nch U854_0]; exact own_nup hp222)⟩ hneg
      · have alt : @LT.lt Nat _ ata (Array.size T936.heap) := af3.lt
        have als : @LT.lt Nat _ b931 (Array.size T936.heap) := af0.lt
        have f974 := (f934.keep K936 (allS (by omega) all0))
        refine own_cS X936 hx hZ hown (wd27 hw) (wd28 hw) (by decide) (wd30 hw) (wd29 hw) (rm5n21 l Z a0 hw [] G1 G2 b931 ata akt (nar .char r_853) (nar .char r_854) ay0 ay1 az0 az1 T936.heap n0 (by omega) f974 A af0 af1 af2 af3 ae0 ae1 (own_chn _) (own_chn _)) rfl  [(.ref b931)] [] 115 0 (hb hby at_112) rfl (by rw [hml]; rfl) rfl rfl (lenOf pd_25 rfl) rfl (by decide) fun v975 T975 Lc975 X975 hQ975 => ?_
        obtain ⟨so_975, rfl, N975q, K975, G975_0⟩ := hQ975
        have N975 := Fr.app N936 N975q
        have z975 := K975.1
        rcases G975_0 with ⟨hso, hl0, hl1⟩ | ⟨hstr, hneg⟩
        · rw [hso]
          refine own_rl 119 #[.val (.int i0), .val (.int i1), .val (.int i2), .val (.int i3), .val (.int (2 : Int32)), .val (.int r_853), .val (.int r_854), .val (.int r_855), .val (.ref b926), .val (.ref b931), .val (.ref b931), .unset] [(.ref b931)] X975 hx hby e0_115_2 rfl rfl ?_
          refine own_st 122 [] (fun t k => XS.ifnullNo X975.here hx rfl (hb hby at_119) rfl k) ?_
          refine own_ru 124 [(.ref b931)] X975 hx hby e0_122_1 rfl rfl ?_
          have f976 := (f974.keep K975 all0)
          have f977 := (Exa.keep af0 K975)
          have f978 := (af1.keep K975 nin0)
          have f979 := (af2.keep K975 nin0)
          have f980 := (af3.keep K975 nin0)
          refine own_cV X975 hx hZ hown (wd42 hw) (wd32 hw) (notFace_of_selects (args := #[]) (mvT hZ (wd34 hw))) (wd34 hw) (wd33 hw) (by decide) (wd35 hw) (wd8 hw) (rm6d1 l Z a0 hw [] G1 G2 b931 ata akt (4 : Int32) [(.int ay0), (.int az0), (.int ay1), (.int az1)] T975.heap n0 (by omega) f976 A f977 f978 f979 f980) rfl f977 [] [] 127 0 (hb hby at_124) rfl (by rw [hml]; rfl) rfl rfl (lenOf pd_20 rfl) rfl (by decide) fun v981 T981 Lc981 X981 hQ981 => ?_
          obtain ⟨rfl, N981q, e981⟩ := hQ981
          have N981 := Fr.app N975 N981q
          refine own_ru 129 [(.int (2 : Int32)), (.int (2 : Int32))] X981 hx hby e0_127_1 rfl rfl ?_
          refine own_kY 134 X981 hx (hb hby at_129) rfl (teq (by decide : ((2 : Int32) = (2 : Int32)))).1 (by decide) (by decide) ?_
          refine own_ru 137 [(.int (1 : Int32)), (.int (2 : Int32))] X981 hx hby e0_134_2 rfl rfl ?_
          refine own_kN 140 X981 hx (hb hby at_137) rfl (flt (by decide : ¬ ((2 : Int32) < (1 : Int32)))).1 rfl ?_
          refine own_ru 143 [(.int (0 : Int32)), (.ref b931)] X981 hx hby e0_140_2 rfl rfl ?_
          refine own_cV X981 hx hZ hown (wd78 hw) (wd54 hw) (notFace_of_selects (args := #[]) (mvT hZ (wd56 hw))) (wd56 hw) (wd55 hw) (by decide) (wd57 hw) (wd8 hw) (rm11u l Z a0 hw [] G1 G2 b931 (0 : Int32) ata akt (4 : Int32) [(.int ay0), (.int az0), (.int ay1), (.int az1)] ay0 az0 T975.heap n0 (by omega) f976 A f977 f978 f979 f980 (by decide) (by decide) ⟨by decide, by decide⟩ ⟨by decide, by decide⟩ rfl rfl) e981 f977 [(.int (0 : Int32))] [] 146 0 (hb hby at_143) rfl (by rw [hml]; rfl) rfl rfl (lenOf pd_21 rfl) rfl (by decide) fun v982 T982 Lc982 X982 hQ982 => ?_
          obtain ⟨rfl, N982q, e982⟩ := hQ982
          have N982 := Fr.app N981 N982q
          refine own_ru 148 [(.int r_853), (.int (own_u ay0 az0))] X982 hx hby e0_146_1 rfl rfl ?_
          refine own_cS X982 hx hZ hown (wd79 hw) (wd80 hw) (by decide) (wd81 hw) (wd2 hw) (rm17 l Z a0 hw [] r_853 T975.heap n0 (by omega) U853_0) e982  [(.int r_853)] [(.int (own_u ay0 az0))] 151 1 (hb hby at_148) rfl (by rw [hml]; rfl) rfl rfl (lenOf pd_22 rfl) rfl (by decide) fun v983 T983 Lc983 X983 hQ983 => ?_
          obtain ⟨rfl, N983q, e983⟩ := hQ983
          have N983 := Fr.app N982 N983q
          refine own_kY 156 X983 hx (hb hby at_151) rfl (teq (ae0.trans (hl0.trans (by rw [own_nch U853_0])))).1 (by decide) (by decide) ?_
          refine own_ru 159 [(.int (2 : Int32)), (.int (2 : Int32))] X983 hx hby e0_156_2 rfl rfl ?_
          refine own_kN 162 X983 hx (hb hby at_159) rfl (flt (by decide : ¬ ((2 : Int32) < (2 : Int32)))).1 rfl ?_
          refine own_ru 165 [(.int (1 : Int32)), (.ref b931)] X983 hx hby e0_162_2 rfl rfl ?_
          refine own_cV X983 hx hZ hown (wd78 hw) (wd54 hw) (notFace_of_selects (args := #[]) (mvT hZ (wd56 hw))) (wd56 hw) (wd55 hw) (by decide) (wd57 hw) (wd8 hw) (rm11u l Z a0 hw [] G1 G2 b931 (1 : Int32) ata akt (4 : Int32) [(.int ay0), (.int az0), (.int ay1), (.int az1)] ay1 az1 T975.heap n0 (by omega) f976 A f977 f978 f979 f980 (by decide) (by decide) ⟨by decide, by decide⟩ ⟨by decide, by decide⟩ rfl rfl) e983 f977 [(.int (1 : Int32))] [] 168 0 (hb hby at_165) rfl (by rw [hml]; rfl) rfl rfl (lenOf pd_21 rfl) rfl (by decide) fun v984 T984 Lc984 X984 hQ984 => ?_
          obtain ⟨rfl, N984q, e984⟩ := hQ984
          have N984 := Fr.app N983 N984q
          refine own_ru 170 [(.int r_854), (.int (own_u ay1 az1))] X984 hx hby e0_168_1 rfl rfl ?_
          refine own_cS X984 hx hZ hown (wd79 hw) (wd80 hw) (by decide) (wd81 hw) (wd2 hw) (rm17 l Z a0 hw [] r_854 T975.heap n0 (by omega) U854_0) e984  [(.int r_854)] [(.int (own_u ay1 az1))] 173 1 (hb hby at_170) rfl (by rw [hml]; rfl) rfl rfl (lenOf pd_22 rfl) rfl (by decide) fun v985 T985 Lc985 X985 hQ985 => ?_
          obtain ⟨rfl, N985q, e985⟩ := hQ985
          have N985 := Fr.app N984 N985q
          refine own_kY 178 X985 hx (hb hby at_173) rfl (teq (ae1.trans (hl1.trans (by rw [own_nch U854_0])))).1 (by decide) (by decide) ?_
          refine own_ru 181 [(.int (3 : Int32)), (.int (2 : Int32))] X985 hx hby e0_178_2 rfl rfl ?_
          refine own_kY 200 X985 hx (hb hby at_181) rfl (tlt (by decide : ((2 : Int32) < (3 : Int32)))).1 (by decide) (by decide) ?_
          refine own_ru 203 [(.int (1 : Int32)), (.int (2 : Int32))] X985 hx hby e0_200_2 rfl rfl ?_
          refine own_kN 206 X985 hx (hb hby at_203) rfl (flt (by decide : ¬ ((2 : Int32) < (1 : Int32)))).1 rfl ?_
          as_aux_lemma =>
            refine own_ru 208 [(.int r_853)] X985 hx hby e0_206_1 rfl rfl ?_
            refine own_cS X985 hx hZ hown (wd82 hw) (wd83 hw) (by decide) (wd84 hw) (wd2 hw) (rm18 l Z a0 hw [] r_853 T975.heap n0 (by omega) ) e985  [(.int r_853)] [] 211 0 (hb hby at_208) rfl (by rw [hml]; rfl) rfl rfl (lenOf pd_26 rfl) rfl (by decide) fun v986 T986 Lc986 X986 hQ986 => ?_
            obtain ⟨hvc986, N986q, e986⟩ := hQ986
            have N986 := Fr.app N985 N986q
            rcases hvc986 with ⟨rfl, hp208⟩ | ⟨rfl, hp208⟩
            · refine own_iY 242 X986 hx (hb hby at_211) rfl ((if0 _ _).trans (feq (by decide : ¬ ((1 : Int32) = (0 : Int32)))).2) (by decide) (by decide) ?_
              refine own_ru 243 [(.int (1 : Int32))] X986 hx hby e0_242_1 rfl rfl ?_
              refine own_go 247 X986 hx (hb hby at_243) (by decide) (by decide) ?_
              refine own_rl 251 #[.val (.int i0), .val (.int i1), .val (.int i2), .val (.int i3), .val (.int (2 : Int32)), .val (.int r_853), .val (.int r_854), .val (.int r_855), .val (.ref b926), .val (.ref b931), .val (.ref b931), .val (.int (1 : Int32))] [(.int (1 : Int32))] X986 hx hby e0_247_2 rfl rfl ?_
              refine own_iY 263 X986 hx (hb hby at_251) rfl ((if0 _ _).trans (feq (by decide : ¬ ((1 : Int32) = (0 : Int32)))).2) (by decide) (by decide) ?_
              refine own_ru 264 [(.int (1 : Int32))] X986 hx hby e0_263_1 rfl rfl ?_
              have hq987 : Q0 Z G1 G2 i0 i1 i2 i3 h0 n0 (some (.int (nar .boolean (1 : Int32)))) T975.heap _ := ⟨rfl, N986⟩
              exact own_retN X986 hx hlk (t := .boolean) hrt (by simp) (hb hby at_264) e986 hq987 (by decide) (by decide)
            · refine own_iN 214 X986 hx (hb hby at_211) rfl ((if0 _ _).trans (teq (by decide : ((0 : Int32) = (0 : Int32)))).2) rfl ?_
              refine own_ru 217 [(.int (2 : Int32)), (.int (2 : Int32))] X986 hx hby e0_214_2 rfl rfl ?_
              refine own_kN 220 X986 hx (hb hby at_217) rfl (flt (by decide : ¬ ((2 : Int32) < (2 : Int32)))).1 rfl ?_
              refine own_ru 222 [(.int r_854)] X986 hx hby e0_220_1 rfl rfl ?_
              refine own_cS X986 hx hZ hown (wd82 hw) (wd83 hw) (by decide) (wd84 hw) (wd2 hw) (rm18 l Z a0 hw [] r_854 T975.heap n0 (by omega) ) e986  [(.int r_854)] [] 225 0 (hb hby at_222) rfl (by rw [hml]; rfl) rfl rfl (lenOf pd_26 rfl) rfl (by decide) fun v988 T988 Lc988 X988 hQ988 => ?_
              obtain ⟨hvc988, N988q, e988⟩ := hQ988
              have N988 := Fr.app N986 N988q
              rcases hvc988 with ⟨rfl, hp222⟩ | ⟨rfl, hp222⟩
              · refine own_iY 242 X988 hx (hb hby at_225) rfl ((if0 _ _).trans (feq (by decide : ¬ ((1 : Int32) = (0 : Int32)))).2) (by decide) (by decide) ?_
                refine own_ru 243 [(.int (1 : Int32))] X988 hx hby e0_242_1 rfl rfl ?_
                refine own_go 247 X988 hx (hb hby at_243) (by decide) (by decide) ?_
                refine own_rl 251 #[.val (.int i0), .val (.int i1), .val (.int i2), .val (.int i3), .val (.int (2 : Int32)), .val (.int r_853), .val (.int r_854), .val (.int r_855), .val (.ref b926), .val (.ref b931), .val (.ref b931), .val (.int (1 : Int32))] [(.int (1 : Int32))] X988 hx hby e0_247_2 rfl rfl ?_
                refine own_iY 263 X988 hx (hb hby at_251) rfl ((if0 _ _).trans (feq (by decide : ¬ ((1 : Int32) = (0 : Int32)))).2) (by decide) (by decide) ?_
                refine own_ru 264 [(.int (1 : Int32))] X988 hx hby e0_263_1 rfl rfl ?_
                have hq989 : Q0 Z G1 G2 i0 i1 i2 i3 h0 n0 (some (.int (nar .boolean (1 : Int32)))) T975.heap _ := ⟨rfl, N988⟩
                exact own_retN X988 hx hlk (t := .boolean) hrt (by simp) (hb hby at_264) e988 hq989 (by decide) (by decide)
              · refine own_iN 228 X988 hx (hb hby at_225) rfl ((if0 _ _).trans (teq (by decide : ((0 : Int32) = (0 : Int32)))).2) rfl ?_
                refine own_ru 231 [(.int (3 : Int32)), (.int (2 : Int32))] X988 hx hby e0_228_2 rfl rfl ?_
                refine own_kY 246 X988 hx (hb hby at_231) rfl (tlt (by decide : ((2 : Int32) < (3 : Int32)))).1 (by decide) (by decide) ?_
                refine own_rl 251 #[.val (.int i0), .val (.int i1), .val (.int i2), .val (.int i3), .val (.int (2 : Int32)), .val (.int r_853), .val (.int r_854), .val (.int r_855), .val (.ref b926), .val (.ref b931), .val (.ref b931), .val (.int (0 : Int32))] [(.int (0 : Int32))] X988 hx hby e0_246_3 rfl rfl ?_
                refine own_iN 254 X988 hx (hb hby at_251) rfl ((if0 _ _).trans (teq (by decide : ((0 : Int32) = (0 : Int32)))).2) rfl ?_
                refine own_ru 258 [(.ref b931), (.ref b931)] X988 hx hby e0_254_2 rfl rfl ?_
                refine own_st 263 [] (fun t k => Jvm.RoadKit.acmp (g := (mkF m 258 #[.val (.int i0), .val (.int i1), .val (.int i2), .val (.int i3), .val (.int (2 : Int32)), .val (.int r_853), .val (.int r_854), .val (.int r_855), .val (.ref b926), .val (.ref b931), .val (.ref b931), .val (.int (0 : Int32))] [(.ref b931), (.ref b931)])) X988 hx rfl rfl rfl (pc0 := 258) (pc' := 263) (same := true) rfl (hb hby at_258) rfl (decide_eq_true rfl) (by decide) (by decide) k) ?_
                refine own_ru 264 [(.int (1 : Int32))] X988 hx hby e0_263_1 rfl rfl ?_
                have hq990 : Q0 Z G1 G2 i0 i1 i2 i3 h0 n0 (some (.int (nar .boolean (1 : Int32)))) T975.heap _ := ⟨rfl, N988⟩
                exact own_retN X988 hx hlk (t := .boolean) hrt (by simp) (hb hby at_264) e988 hq990 (by decide) (by decide)
        · rcases hstr with ⟨bta, bkt, by0, by1, bf0, bf1, bf2, bf3, be0, be1⟩ | ⟨bta, bkt, by0, by1, bz0, bz1, bf0, bf1, bf2, bf3, be0, be1⟩
          · have blt : @LT.lt Nat _ bta (Array.size T975.heap) := bf3.lt
            have bls : @LT.lt Nat _ so_975 (Array.size T975.heap) := bf0.lt
            refine own_rl 119 #[.val (.int i0), .val (.int i1), .val (.int i2), .val (.int i3), .val (.int (2 : Int32)), .val (.int r_853), .val (.int r_854), .val (.int r_855), .val (.ref b926), .val (.ref b931), .val (.ref so_975), .unset] [(.ref so_975)] X975 hx hby e0_115_2 rfl rfl ?_
            refine own_st 122 [] (fun t k => XS.ifnullNo X975.here hx rfl (hb hby at_119) rfl k) ?_
            refine own_ru 124 [(.ref so_975)] X975 hx hby e0_122_1 rfl rfl ?_
            have f991 := (f974.keep K975 all0)
            refine own_cV X975 hx hZ hown (wd42 hw) (wd32 hw) (notFace_of_selects (args := #[]) (mvT hZ (wd34 hw))) (wd34 hw) (wd33 hw) (by decide) (wd35 hw) (wd8 hw) (rm6d0 l Z a0 hw [] G1 G2 so_975 bta bkt (2 : Int32) [(.int by0), (.int by1)] T975.heap n0 (by omega) f991 A bf0 bf1 bf2 bf3) rfl bf0 [] [] 127 0 (hb hby at_124) rfl (by rw [hml]; rfl) rfl rfl (lenOf pd_20 rfl) rfl (by decide) fun v992 T992 Lc992 X992 hQ992 => ?_
            obtain ⟨rfl, N992q, e992⟩ := hQ992
            have N992 := Fr.app N975 N992q
            refine own_ru 129 [(.int (2 : Int32)), (.int (2 : Int32))] X992 hx hby e0_127_1 rfl rfl ?_
            refine own_kY 134 X992 hx (hb hby at_129) rfl (teq (by decide : ((2 : Int32) = (2 : Int32)))).1 (by decide) (by decide) ?_
            refine own_ru 137 [(.int (1 : Int32)), (.int (2 : Int32))] X992 hx hby e0_134_2 rfl rfl ?_
            refine own_kN 140 X992 hx (hb hby at_137) rfl (flt (by decide : ¬ ((2 : Int32) < (1 : Int32)))).1 rfl ?_
            refine own_ru 143 [(.int (0 : Int32)), (.ref so_975)] X992 hx hby e0_140_2 rfl rfl ?_
            refine own_cV X992 hx hZ hown (wd78 hw) (wd54 hw) (notFace_of_selects (args := #[]) (mvT hZ (wd56 hw))) (wd56 hw) (wd55 hw) (by decide) (wd57 hw) (wd8 hw) (rm11l l Z a0 hw [] G1 G2 so_975 (0 : Int32) bta bkt (2 : Int32) [(.int by0), (.int by1)] by0 T975.heap n0 (by omega) f991 A bf0 bf1 bf2 bf3 (by decide) (by decide) rfl) e992 bf0 [(.int (0 : Int32))] [] 146 0 (hb hby at_143) rfl (by rw [hml]; rfl) rfl rfl (lenOf pd_21 rfl) rfl (by decide) fun v993 T993 Lc993 X993 hQ993 => ?_
            obtain ⟨rfl, N993q, e993⟩ := hQ993
            have N993 := Fr.app N992 N993q
            refine own_ru 148 [(.int r_853), (.int (own_lc by0))] X993 hx hby e0_146_1 rfl rfl ?_
            refine own_cS X993 hx hZ hown (wd79 hw) (wd80 hw) (by decide) (wd81 hw) (wd2 hw) (rm17 l Z a0 hw [] r_853 T975.heap n0 (by omega) U853_0) e993  [(.int r_853)] [(.int (own_lc by0))] 151 1 (hb hby at_148) rfl (by rw [hml]; rfl) rfl rfl (lenOf pd_22 rfl) rfl (by decide) fun v994 T994 Lc994 X994 hQ994 => ?_
            obtain ⟨rfl, N994q, e994⟩ := hQ994
            have N994 := Fr.app N993 N994q
            refine own_kY 156 X994 hx (hb hby at_151) rfl (teq (be0.trans (by rw [own_nch U853_0]))).1 (by decide) (by decide) ?_
            refine own_ru 159 [(.int (2 : Int32)), (.int (2 : Int32))] X994 hx hby e0_156_2 rfl rfl ?_
            refine own_kN 162 X994 hx (hb hby at_159) rfl (flt (by decide : ¬ ((2 : Int32) < (2 : Int32)))).1 rfl ?_
            refine own_ru 165 [(.int (1 : Int32)), (.ref so_975)] X994 hx hby e0_162_2 rfl rfl ?_
            refine own_cV X994 hx hZ hown (wd78 hw) (wd54 hw) (notFace_of_selects (args := #[]) (mvT hZ (wd56 hw))) (wd56 hw) (wd55 hw) (by decide) (wd57 hw) (wd8 hw) (rm11l l Z a0 hw [] G1 G2 so_975 (1 : Int32) bta bkt (2 : Int32) [(.int by0), (.int by1)] by1 T975.heap n0 (by omega) f991 A bf0 bf1 bf2 bf3 (by decide) (by decide) rfl) e994 bf0 [(.int (1 : Int32))] [] 168 0 (hb hby at_165) rfl (by rw [hml]; rfl) rfl rfl (lenOf pd_21 rfl) rfl (by decide) fun v995 T995 Lc995 X995 hQ995 => ?_
            obtain ⟨rfl, N995q, e995⟩ := hQ995
            have N995 := Fr.app N994 N995q
            refine own_ru 170 [(.int r_854), (.int (own_lc by1))] X995 hx hby e0_168_1 rfl rfl ?_
            refine own_cS X995 hx hZ hown (wd79 hw) (wd80 hw) (by decide) (wd81 hw) (wd2 hw) (rm17 l Z a0 hw [] r_854 T975.heap n0 (by omega) U854_0) e995  [(.int r_854)] [(.int (own_lc by1))] 173 1 (hb hby at_170) rfl (by rw [hml]; rfl) rfl rfl (lenOf pd_22 rfl) rfl (by decide) fun v996 T996 Lc996 X996 hQ996 => ?_
            obtain ⟨rfl, N996q, e996⟩ := hQ996
            have N996 := Fr.app N995 N996q
            refine own_kY 178 X996 hx (hb hby at_173) rfl (teq (be1.trans (by rw [own_nch U854_0]))).1 (by decide) (by decide) ?_
            refine own_ru 181 [(.int (3 : Int32)), (.int (2 : Int32))] X996 hx hby e0_178_2 rfl rfl ?_
            refine own_kY 200 X996 hx (hb hby at_181) rfl (tlt (by decide : ((2 : Int32) < (3 : Int32)))).1 (by decide) (by decide) ?_
            refine own_ru 203 [(.int (1 : Int32)), (.int (2 : Int32))] X996 hx hby e0_200_2 rfl rfl ?_
            refine own_kN 206 X996 hx (hb hby at_203) rfl (flt (by decide : ¬ ((2 : Int32) < (1 : Int32)))).1 rfl ?_
            as_aux_lemma =>
              refine own_ru 208 [(.int r_853)] X996 hx hby e0_206_1 rfl rfl ?_
              refine own_cS X996 hx hZ hown (wd82 hw) (wd83 hw) (by decide) (wd84 hw) (wd2 hw) (rm18 l Z a0 hw [] r_853 T975.heap n0 (by omega) ) e996  [(.int r_853)] [] 211 0 (hb hby at_208) rfl (by rw [hml]; rfl) rfl rfl (lenOf pd_26 rfl) rfl (by decide) fun v997 T997 Lc997 X997 hQ997 => ?_
              obtain ⟨hvc997, N997q, e997⟩ := hQ997
              have N997 := Fr.app N996 N997q
              rcases hvc997 with ⟨rfl, hp208⟩ | ⟨rfl, hp208⟩
              · refine own_iY 242 X997 hx (hb hby at_211) rfl ((if0 _ _).trans (feq (by decide : ¬ ((1 : Int32) = (0 : Int32)))).2) (by decide) (by decide) ?_
                refine own_ru 243 [(.int (1 : Int32))] X997 hx hby e0_242_1 rfl rfl ?_
                refine own_go 247 X997 hx (hb hby at_243) (by decide) (by decide) ?_
                refine own_rl 251 #[.val (.int i0), .val (.int i1), .val (.int i2), .val (.int i3), .val (.int (2 : Int32)), .val (.int r_853), .val (.int r_854), .val (.int r_855), .val (.ref b926), .val (.ref b931), .val (.ref so_975), .val (.int (1 : Int32))] [(.int (1 : Int32))] X997 hx hby e0_247_2 rfl rfl ?_
                refine own_iY 263 X997 hx (hb hby at_251) rfl ((if0 _ _).trans (feq (by decide : ¬ ((1 : Int32) = (0 : Int32)))).2) (by decide) (by decide) ?_
                refine own_ru 264 [(.int (1 : Int32))] X997 hx hby e0_263_1 rfl rfl ?_
                have hq998 : Q0 Z G1 G2 i0 i1 i2 i3 h0 n0 (some (.int (nar .boolean (1 : Int32)))) T975.heap _ := ⟨rfl, N997⟩
                exact own_retN X997 hx hlk (t := .boolean) hrt (by simp) (hb hby at_264) e997 hq998 (by decide) (by decide)
              · refine own_iN 214 X997 hx (hb hby at_211) rfl ((if0 _ _).trans (teq (by decide : ((0 : Int32) = (0 : Int32)))).2) rfl ?_
                refine own_ru 217 [(.int (2 : Int32)), (.int (2 : Int32))] X997 hx hby e0_214_2 rfl rfl ?_
                refine own_kN 220 X997 hx (hb hby at_217) rfl (flt (by decide : ¬ ((2 : Int32) < (2 : Int32)))).1 rfl ?_
                refine own_ru 222 [(.int r_854)] X997 hx hby e0_220_1 rfl rfl ?_
                refine own_cS X997 hx hZ hown (wd82 hw) (wd83 hw) (by decide) (wd84 hw) (wd2 hw) (rm18 l Z a0 hw [] r_854 T975.heap n0 (by omega) ) e997  [(.int r_854)] [] 225 0 (hb hby at_222) rfl (by rw [hml]; rfl) rfl rfl (lenOf pd_26 rfl) rfl (by decide) fun v999 T999 Lc999 X999 hQ999 => ?_
                obtain ⟨hvc999, N999q, e999⟩ := hQ999
                have N999 := Fr.app N997 N999q
                rcases hvc999 with ⟨rfl, hp222⟩ | ⟨rfl, hp222⟩
                · refine own_iY 242 X999 hx (hb hby at_225) rfl ((if0 _ _).trans (feq (by decide : ¬ ((1 : Int32) = (0 : Int32)))).2) (by decide) (by decide) ?_
                  refine own_ru 243 [(.int (1 : Int32))] X999 hx hby e0_242_1 rfl rfl ?_
                  refine own_go 247 X999 hx (hb hby at_243) (by decide) (by decide) ?_
                  refine own_rl 251 #[.val (.int i0), .val (.int i1), .val (.int i2), .val (.int i3), .val (.int (2 : Int32)), .val (.int r_853), .val (.int r_854), .val (.int r_855), .val (.ref b926), .val (.ref b931), .val (.ref so_975), .val (.int (1 : Int32))] [(.int (1 : Int32))] X999 hx hby e0_247_2 rfl rfl ?_
                  refine own_iY 263 X999 hx (hb hby at_251) rfl ((if0 _ _).trans (feq (by decide : ¬ ((1 : Int32) = (0 : Int32)))).2) (by decide) (by decide) ?_
                  refine own_ru 264 [(.int (1 : Int32))] X999 hx hby e0_263_1 rfl rfl ?_
                  have hq1000 : Q0 Z G1 G2 i0 i1 i2 i3 h0 n0 (some (.int (nar .boolean (1 : Int32)))) T975.heap _ := ⟨rfl, N999⟩
                  exact own_retN X999 hx hlk (t := .boolean) hrt (by simp) (hb hby at_264) e999 hq1000 (by decide) (by decide)
                · refine own_iN 228 X999 hx (hb hby at_225) rfl ((if0 _ _).trans (teq (by decide : ((0 : Int32) = (0 : Int32)))).2) rfl ?_
                  refine own_ru 231 [(.int (3 : Int32)), (.int (2 : Int32))] X999 hx hby e0_228_2 rfl rfl ?_
                  refine own_kY 246 X999 hx (hb hby at_231) rfl (tlt (by decide : ((2 : Int32) < (3 : Int32)))).1 (by decide) (by decide) ?_
                  refine own_rl 251 #[.val (.int i0), .val (.int i1), .val (.int i2), .val (.int i3), .val (.int (2 : Int32)), .val (.int r_853), .val (.int r_854), .val (.int r_855), .val (.ref b926), .val (.ref b931), .val (.ref so_975), .val (.int (0 : Int32))] [(.int (0 : Int32))] X999 hx hby e0_246_3 rfl rfl ?_
                  refine own_iN 254 X999 hx (hb hby at_251) rfl ((if0 _ _).trans (teq (by decide : ((0 : Int32) = (0 : Int32)))).2) rfl ?_
                  exact absurd ⟨(by rw [own_nch U853_0]; exact own_nup hp208), (by rw [own_nch U854_0]; exact own_nup hp222)⟩ hneg
          · have blt : @LT.lt Nat _ bta (Array.size T975.heap) := bf3.lt
            have bls : @LT.lt Nat _ so_975 (Array.size T975.heap) := bf0.lt
            refine own_rl 119 #[.val (.int i0), .val (.int i1), .val (.int i2), .val (.int i3), .val (.int (2 : Int32)), .val (.int r_853), .val (.int r_854), .val (.int r_855), .val (.ref b926), .val (.ref b931), .val (.ref so_975), .unset] [(.ref so_975)] X975 hx hby e0_115_2 rfl rfl ?_
            refine own_st 122 [] (fun t k => XS.ifnullNo X975.here hx rfl (hb hby at_119) rfl k) ?_
            refine own_ru 124 [(.ref so_975)] X975 hx hby e0_122_1 rfl rfl ?_
            have f1001 := (f974.keep K975 all0)
            refine own_cV X975 hx hZ hown (wd42 hw) (wd32 hw) (notFace_of_selects (args := #[]) (mvT hZ (wd34 hw))) (wd34 hw) (wd33 hw) (by decide) (wd35 hw) (wd8 hw) (rm6d1 l Z a0 hw [] G1 G2 so_975 bta bkt (4 : Int32) [(.int by0), (.int bz0), (.int by1), (.int bz1)] T975.heap n0 (by omega) f1001 A bf0 bf1 bf2 bf3) rfl bf0 [] [] 127 0 (hb hby at_124) rfl (by rw [hml]; rfl) rfl rfl (lenOf pd_20 rfl) rfl (by decide) fun v1002 T1002 Lc1002 X1002 hQ1002 => ?_
            obtain ⟨rfl, N1002q, e1002⟩ := hQ1002
            have N1002 := Fr.app N975 N1002q
            refine own_ru 129 [(.int (2 : Int32)), (.int (2 : Int32))] X1002 hx hby e0_127_1 rfl rfl ?_
            refine own_kY 134 X1002 hx (hb hby at_129) rfl (teq (by decide : ((2 : Int32) = (2 : Int32)))).1 (by decide) (by decide) ?_
            refine own_ru 137 [(.int (1 : Int32)), (.int (2 : Int32))] X1002 hx hby e0_134_2 rfl rfl ?_
            refine own_kN 140 X1002 hx (hb hby at_137) rfl (flt (by decide : ¬ ((2 : Int32) < (1 : Int32)))).1 rfl ?_
            refine own_ru 143 [(.int (0 : Int32)), (.ref so_975)] X1002 hx hby e0_140_2 rfl rfl ?_
            refine own_cV X1002 hx hZ hown (wd78 hw) (wd54 hw) (notFace_of_selects (args := #[]) (mvT hZ (wd56 hw))) (wd56 hw) (wd55 hw) (by decide) (wd57 hw) (wd8 hw) (rm11u l Z a0 hw [] G1 G2 so_975 (0 : Int32) bta bkt (4 : Int32) [(.int by0), (.int bz0), (.int by1), (.int bz1)] by0 bz0 T975.heap n0 (by omega) f1001 A bf0 bf1 bf2 bf3 (by decide) (by decide) ⟨by decide, by decide⟩ ⟨by decide, by decide⟩ rfl rfl) e1002 bf0 [(.int (0 : Int32))] [] 146 0 (hb hby at_143) rfl (by rw [hml]; rfl) rfl rfl (lenOf pd_21 rfl) rfl (by decide) fun v1003 T1003 Lc1003 X1003 hQ1003 => ?_
            obtain ⟨rfl, N1003q, e1003⟩ := hQ1003
            have N1003 := Fr.app N1002 N1003q
            refine own_ru 148 [(.int r_853), (.int (own_u by0 bz0))] X1003 hx hby e0_146_1 rfl rfl ?_
            refine own_cS X1003 hx hZ hown (wd79 hw) (wd80 hw) (by decide) (wd81 hw) (wd2 hw) (rm17 l Z a0 hw [] r_853 T975.heap n0 (by omega) U853_0) e1003  [(.int r_853)] [(.int (own_u by0 bz0))] 151 1 (hb hby at_148) rfl (by rw [hml]; rfl) rfl rfl (lenOf pd_22 rfl) rfl (by decide) fun v1004 T1004 Lc1004 X1004 hQ1004 => ?_
            obtain ⟨rfl, N1004q, e1004⟩ := hQ1004
            have N1004 := Fr.app N1003 N1004q
            refine own_kY 156 X1004 hx (hb hby at_151) rfl (teq (be0.trans (by rw [own_nch U853_0]))).1 (by decide) (by decide) ?_
            refine own_ru 159 [(.int (2 : Int32)), (.int (2 : Int32))] X1004 hx hby e0_156_2 rfl rfl ?_
            refine own_kN 162 X1004 hx (hb hby at_159) rfl (flt (by decide : ¬ ((2 : Int32) < (2 : Int32)))).1 rfl ?_
            refine own_ru 165 [(.int (1 : Int32)), (.ref so_975)] X1004 hx hby e0_162_2 rfl rfl ?_
            refine own_cV X1004 hx hZ hown (wd78 hw) (wd54 hw) (notFace_of_selects (args := #[]) (mvT hZ (wd56 hw))) (wd56 hw) (wd55 hw) (by decide) (wd57 hw) (wd8 hw) (rm11u l Z a0 hw [] G1 G2 so_975 (1 : Int32) bta bkt (4 : Int32) [(.int by0), (.int bz0), (.int by1), (.int bz1)] by1 bz1 T975.heap n0 (by omega) f1001 A bf0 bf1 bf2 bf3 (by decide) (by decide) ⟨by decide, by decide⟩ ⟨by decide, by decide⟩ rfl rfl) e1004 bf0 [(.int (1 : Int32))] [] 168 0 (hb hby at_165) rfl (by rw [hml]; rfl) rfl rfl (lenOf pd_21 rfl) rfl (by decide) fun v1005 T1005 Lc1005 X1005 hQ1005 => ?_
            obtain ⟨rfl, N1005q, e1005⟩ := hQ1005
            have N1005 := Fr.app N1004 N1005q
            refine own_ru 170 [(.int r_854), (.int (own_u by1 bz1))] X1005 hx hby e0_168_1 rfl rfl ?_
            refine own_cS X1005 hx hZ hown (wd79 hw) (wd80 hw) (by decide) (wd81 hw) (wd2 hw) (rm17 l Z a0 hw [] r_854 T975.heap n0 (by omega) U854_0) e1005  [(.int r_854)] [(.int (own_u by1 bz1))] 173 1 (hb hby at_170) rfl (by rw [hml]; rfl) rfl rfl (lenOf pd_22 rfl) rfl (by decide) fun v1006 T1006 Lc1006 X1006 hQ1006 => ?_
            obtain ⟨rfl, N1006q, e1006⟩ := hQ1006
            have N1006 := Fr.app N1005 N1006q
            refine own_kY 178 X1006 hx (hb hby at_173) rfl (teq (be1.trans (by rw [own_nch U854_0]))).1 (by decide) (by decide) ?_
            refine own_ru 181 [(.int (3 : Int32)), (.int (2 : Int32))] X1006 hx hby e0_178_2 rfl rfl ?_
            refine own_kY 200 X1006 hx (hb hby at_181) rfl (tlt (by decide : ((2 : Int32) < (3 : Int32)))).1 (by decide) (by decide) ?_
            refine own_ru 203 [(.int (1 : Int32)), (.int (2 : Int32))] X1006 hx hby e0_200_2 rfl rfl ?_
            refine own_kN 206 X1006 hx (hb hby at_203) rfl (flt (by decide : ¬ ((2 : Int32) < (1 : Int32)))).1 rfl ?_
            as_aux_lemma =>
              refine own_ru 208 [(.int r_853)] X1006 hx hby e0_206_1 rfl rfl ?_
              refine own_cS X1006 hx hZ hown (wd82 hw) (wd83 hw) (by decide) (wd84 hw) (wd2 hw) (rm18 l Z a0 hw [] r_853 T975.heap n0 (by omega) ) e1006  [(.int r_853)] [] 211 0 (hb hby at_208) rfl (by rw [hml]; rfl) rfl rfl (lenOf pd_26 rfl) rfl (by decide) fun v1007 T1007 Lc1007 X1007 hQ1007 => ?_
              obtain ⟨hvc1007, N1007q, e1007⟩ := hQ1007
              have N1007 := Fr.app N1006 N1007q
              rcases hvc1007 with ⟨rfl, hp208⟩ | ⟨rfl, hp208⟩
              · refine own_iY 242 X1007 hx (hb hby at_211) rfl ((if0 _ _).trans (feq (by decide : ¬ ((1 : Int32) = (0 : Int32)))).2) (by decide) (by decide) ?_
                refine own_ru 243 [(.int (1 : Int32))] X1007 hx hby e0_242_1 rfl rfl ?_
                refine own_go 247 X1007 hx (hb hby at_243) (by decide) (by decide) ?_
                refine own_rl 251 #[.val (.int i0), .val (.int i1), .val (.int i2), .val (.int i3), .val (.int (2 : Int32)), .val (.int r_853), .val (.int r_854), .val (.int r_855), .val (.ref b926), .val (.ref b931), .val (.ref so_975), .val (.int (1 : Int32))] [(.int (1 : Int32))] X1007 hx hby e0_247_2 rfl rfl ?_
                refine own_iY 263 X1007 hx (hb hby at_251) rfl ((if0 _ _).trans (feq (by decide : ¬ ((1 : Int32) = (0 : Int32)))).2) (by decide) (by decide) ?_
                refine own_ru 264 [(.int (1 : Int32))] X1007 hx hby e0_263_1 rfl rfl ?_
                have hq1008 : Q0 Z G1 G2 i0 i1 i2 i3 h0 n0 (some (.int (nar .boolean (1 : Int32)))) T975.heap _ := ⟨rfl, N1007⟩
                exact own_retN X1007 hx hlk (t := .boolean) hrt (by simp) (hb hby at_264) e1007 hq1008 (by decide) (by decide)
              · refine own_iN 214 X1007 hx (hb hby at_211) rfl ((if0 _ _).trans (teq (by decide : ((0 : Int32) = (0 : Int32)))).2) rfl ?_
                refine own_ru 217 [(.int (2 : Int32)), (.int (2 : Int32))] X1007 hx hby e0_214_2 rfl rfl ?_
                refine own_kN 220 X1007 hx (hb hby at_217) rfl (flt (by decide : ¬ ((2 : Int32) < (2 : Int32)))).1 rfl ?_
                refine own_ru 222 [(.int r_854)] X1007 hx hby e0_220_1 rfl rfl ?_
                refine own_cS X1007 hx hZ hown (wd82 hw) (wd83 hw) (by decide) (wd84 hw) (wd2 hw) (rm18 l Z a0 hw [] r_854 T975.heap n0 (by omega) ) e1007  [(.int r_854)] [] 225 0 (hb hby at_222) rfl (by rw [hml]; rfl) rfl rfl (lenOf pd_26 rfl) rfl (by decide) fun v1009 T1009 Lc1009 X1009 hQ1009 => ?_
                obtain ⟨hvc1009, N1009q, e1009⟩ := hQ1009
                have N1009 := Fr.app N1007 N1009q
                rcases hvc1009 with ⟨rfl, hp222⟩ | ⟨rfl, hp222⟩
                · refine own_iY 242 X1009 hx (hb hby at_225) rfl ((if0 _ _).trans (feq (by decide : ¬ ((1 : Int32) = (0 : Int32)))).2) (by decide) (by decide) ?_
                  refine own_ru 243 [(.int (1 : Int32))] X1009 hx hby e0_242_1 rfl rfl ?_
                  refine own_go 247 X1009 hx (hb hby at_243) (by decide) (by decide) ?_
                  refine own_rl 251 #[.val (.int i0), .val (.int i1), .val (.int i2), .val (.int i3), .val (.int (2 : Int32)), .val (.int r_853), .val (.int r_854), .val (.int r_855), .val (.ref b926), .val (.ref b931), .val (.ref so_975), .val (.int (1 : Int32))] [(.int (1 : Int32))] X1009 hx hby e0_247_2 rfl rfl ?_
                  refine own_iY 263 X1009 hx (hb hby at_251) rfl ((if0 _ _).trans (feq (by decide : ¬ ((1 : Int32) = (0 : Int32)))).2) (by decide) (by decide) ?_
                  refine own_ru 264 [(.int (1 : Int32))] X1009 hx hby e0_263_1 rfl rfl ?_
                  have hq1010 : Q0 Z G1 G2 i0 i1 i2 i3 h0 n0 (some (.int (nar .boolean (1 : Int32)))) T975.heap _ := ⟨rfl, N1009⟩
                  exact own_retN X1009 hx hlk (t := .boolean) hrt (by simp) (hb hby at_264) e1009 hq1010 (by decide) (by decide)
                · refine own_iN 228 X1009 hx (hb hby at_225) rfl ((if0 _ _).trans (teq (by decide : ((0 : Int32) = (0 : Int32)))).2) rfl ?_
                  refine own_ru 231 [(.int (3 : Int32)), (.int (2 : Int32))] X1009 hx hby e0_228_2 rfl rfl ?_
                  refine own_kY 246 X1009 hx (hb hby at_231) rfl (tlt (by decide : ((2 : Int32) < (3 : Int32)))).1 (by decide) (by decide) ?_
                  refine own_rl 251 #[.val (.int i0), .val (.int i1), .val (.int i2), .val (.int i3), .val (.int (2 : Int32)), .val (.int r_853), .val (.int r_854), .val (.int r_855), .val (.ref b926), .val (.ref b931), .val (.ref so_975), .val (.int (0 : Int32))] [(.int (0 : Int32))] X1009 hx hby e0_246_3 rfl rfl ?_
                  refine own_iN 254 X1009 hx (hb hby at_251) rfl ((if0 _ _).trans (teq (by decide : ((0 : Int32) = (0 : Int32)))).2) rfl ?_
                  exact absurd ⟨(by rw [own_nch U853_0]; exact own_nup hp208), (by rw [own_nch U854_0]; exact own_nup hp222)⟩ hneg
  · as_aux_lemma =>
      refine own_Fin.mono own_narrow ?_
      refine own_rl 25 #[.val (.int i0), .val (.int i1), .val (.int i2), .val (.int i3), .val (.int (3 : Int32)), .val (.int r_853), .val (.int r_854), .val (.int r_855), .unset, .unset, .unset, .unset] [(.int (3 : Int32))] X855 hx hby e0_23_1 rfl rfl ?_
      refine own_iY 36 X855 hx (hb hby at_25) rfl ((if0 _ _).trans (feq (by decide : ¬ ((3 : Int32) = (0 : Int32)))).2) (by decide) (by decide) ?_
      refine own_ru 39 [(.int (1 : Int32)), (.int (3 : Int32))] X855 hx hby e0_36_2 rfl rfl ?_
      refine own_kY 55 X855 hx (hb hby at_39) rfl (feq (by decide : ¬ ((3 : Int32) = (1 : Int32)))).2 (by decide) (by decide) ?_
      refine own_ru 58 [(.int (2 : Int32)), (.int (3 : Int32))] X855 hx hby e0_55_2 rfl rfl ?_
      refine own_kY 79 X855 hx (hb hby at_58) rfl (feq (by decide : ¬ ((3 : Int32) = (2 : Int32)))).2 (by decide) (by decide) ?_
      refine own_ru 80 [(.int (3 : Int32))] X855 hx hby e0_79_1 rfl rfl ?_
      refine own_nP (aty := .char) X855 hx hZ (wd5 hw) e855 82 (hb hby at_80) rfl rfl (by decide) (cap := 3) (by decide) (by decide) (by decide) (by decide) (ad := "[C") rfl fun T1011 h1011 k1011 b1011 g1011 X1011 e1011 E1011 A1011 B1011 => ?_
      have ll1011 : @LT.lt Nat _ b1011 (Array.size h1011) := A1011.lt
      have z1011 := E1011.1
      have V1011 : Arv Z h1011 b1011 k1011 .char (3 : Int32) [(.int (0 : Int32)), (.int (0 : Int32)), (.int (0 : Int32))] (.int (0 : Int32)) := (Arv.new A1011 (by decide)).pad (pad_rep [] (.int (0 : Int32)) 3)
      refine own_ru 86 [(.int r_853), (.int (0 : Int32)), (.ref b1011), (.ref b1011)] X1011 hx hby e0_82_3 rfl rfl ?_
      obtain ⟨cl1012, Ar1012, q1012, S1012, N1012z, Hs1012, G1012⟩ := id V1011
      have hin1012 : ¬ ((0 : Int32) < 0 ∨ cl1012.slots.size ≤ ((0 : Int32)).toNatClampNeg) := inb_of S1012 ⟨by decide, by decide⟩
      obtain ⟨T1013, h1013, X1013, e1013, W1013, st1013⟩ := stC X1011 hx hZ e1011 Ar1012 (j := (0 : Int32)) hin1012 (g := (mkF m 86 #[.val (.int i0), .val (.int i1), .val (.int i2), .val (.int i3), .val (.int (3 : Int32)), .val (.int r_853), .val (.int r_854), .val (.int r_855), .unset, .unset, .unset, .unset] [(.int r_853), (.int (0 : Int32)), (.ref b1011), (.ref b1011)])) rfl rfl (hb hby at_86)
      have V1013 : Arv Z h1013 b1011 k1011 .char (3 : Int32) [(.int (nar .char r_853)), (.int (0 : Int32)), (.int (0 : Int32))] (.int (0 : Int32)) := Arv.set Ar1012 q1012 S1012 N1012z Hs1012 G1012 (fits_nar_char _) W1013 0 rfl (Nat.le_of_ble_eq_true rfl)
      have z1013 := W1013.size
      have N1013 := Fr.snoc X1013 N855 (by omega)
      refine own_sT 87 [(.ref b1011)] st1013 ?_
      refine own_ru 91 [(.int r_854), (.int (1 : Int32)), (.ref b1011), (.ref b1011)] X1013 hx hby e0_87_3 rfl rfl ?_
      obtain ⟨cl1014, Ar1014, q1014, S1014, N1014z, Hs1014, G1014⟩ := id V1013
      have hin1014 : ¬ ((1 : Int32) < 0 ∨ cl1014.slots.size ≤ ((1 : Int32)).toNatClampNeg) := inb_of S1014 ⟨by decide, by decide⟩
      obtain ⟨T1015, h1015, X1015, e1015, W1015, st1015⟩ := stC X1013 hx hZ e1013 Ar1014 (j := (1 : Int32)) hin1014 (g := (mkF m 91 #[.val (.int i0), .val (.int i1), .val (.int i2), .val (.int i3), .val (.int (3 : Int32)), .val (.int r_853), .val (.int r_854), .val (.int r_855), .unset, .unset, .unset, .unset] [(.int r_854), (.int (1 : Int32)), (.ref b1011), (.ref b1011)])) rfl rfl (hb hby at_91)
      have V1015 : Arv Z h1015 b1011 k1011 .char (3 : Int32) [(.int (nar .char r_853)), (.int (nar .char r_854)), (.int (0 : Int32))] (.int (0 : Int32)) := Arv.set Ar1014 q1014 S1014 N1014z Hs1014 G1014 (fits_nar_char _) W1015 1 rfl (Nat.le_of_ble_eq_true rfl)
      have z1015 := W1015.size
      have N1015 := Fr.snoc X1015 N1013 (by omega)
      refine own_sT 92 [(.ref b1011)] st1015 ?_
      refine own_ru 96 [(.int r_855), (.int (2 : Int32)), (.ref b1011), (.ref b1011)] X1015 hx hby e0_92_3 rfl rfl ?_
      obtain ⟨cl1016, Ar1016, q1016, S1016, N1016z, Hs1016, G1016⟩ := id V1015
      have hin1016 : ¬ ((2 : Int32) < 0 ∨ cl1016.slots.size ≤ ((2 : Int32)).toNatClampNeg) := inb_of S1016 ⟨by decide, by decide⟩
      obtain ⟨T1017, h1017, X1017, e1017, W1017, st1017⟩ := stC X1015 hx hZ e1015 Ar1016 (j := (2 : Int32)) hin1016 (g := (mkF m 96 #[.val (.int i0), .val (.int i1), .val (.int i2), .val (.int i3), .val (.int (3 : Int32)), .val (.int r_853), .val (.int r_854), .val (.int r_855), .unset, .unset, .unset, .unset] [(.int r_855), (.int (2 : Int32)), (.ref b1011), (.ref b1011)])) rfl rfl (hb hby at_96)
      have V1017 : Arv Z h1017 b1011 k1011 .char (3 : Int32) [(.int (nar .char r_853)), (.int (nar .char r_854)), (.int (nar .char r_855))] (.int (0 : Int32)) := Arv.set Ar1016 q1016 S1016 N1016z Hs1016 G1016 (fits_nar_char _) W1017 2 rfl (Nat.le_of_ble_eq_true rfl)
      have z1017 := W1017.size
      have N1017 := Fr.snoc X1017 N1015 (by omega)
      refine own_sT 97 [(.ref b1011)] st1017 ?_
      refine own_rl 99 #[.val (.int i0), .val (.int i1), .val (.int i2), .val (.int i3), .val (.int (3 : Int32)), .val (.int r_853), .val (.int r_854), .val (.int r_855), .val (.ref b1011), .unset, .unset, .unset] [] X1017 hx hby e0_97_1 rfl rfl ?_
      refine own_nO X1017 hx hZ hown (wd6 hw) (wd7 hw) (wd8 hw) e1017 102 (hb hby at_99) rfl (by decide) (by decide) fun T1018 h1018 b1018 g1018 X1018 e1018 E1018 A1018 D1018 UN1018 => ?_
      have ll1018 : @LT.lt Nat _ b1018 (Array.size h1018) := A1018.lt
      have z1018 := E1018.1
      have F1019 : fl2 Z h1018 b1018 .null := D1018 (Or.inr (wd21 hw)) (ty := (.array .byte)) (by decide)
      have F1020 : fl0 Z h1018 b1018 (.int (0 : Int32)) := D1018 (Or.inr (wd22 hw)) (ty := .byte) (by decide)
      refine own_ru 105 [(.ref b1011), (.ref b1018), (.ref b1018)] X1018 hx hby e0_102_2 rfl rfl ?_
      have f1021 := (((((OLD.ext E1011).wr W1013 (by omega)).wr W1015 (by omega)).wr W1017 (by omega)).ext E1018)
      have f1022 := (V1017.ext E1018)
      refine own_cN X1018 hx hZ hown rfl (wd9 hw) (wd10 hw) (by decide) (wd11 hw) (wd8 hw) (rm2n3 l Z a0 hw [] G1 G2 b1018 b1011 k1011 (nar .char r_853) (nar .char r_854) (nar .char r_855) h1018 n0 (by omega) f1021 A A1018 F1019 F1020 f1022 (by omega) (own_chn _) (own_chn _) (own_chn _) (by first | assumption | decide | omega)) e1018  [(.ref b1011)] [(.ref b1018)] 108 1 (hb hby at_105) rfl (by rw [hml]; rfl) rfl rfl (lenOf pd_24 rfl) rfl (by decide) fun v1023 T1023 Lc1023 X1023 hQ1023 => ?_
      obtain ⟨rfl, N1023q, K1023, G1023_0⟩ := hQ1023
      have N1023 := Fr.app N1017 N1023q
      have z1023 := K1023.1
      refine own_rl 112 #[.val (.int i0), .val (.int i1), .val (.int i2), .val (.int i3), .val (.int (3 : Int32)), .val (.int r_853), .val (.int r_854), .val (.int r_855), .val (.ref b1011), .val (.ref b1018), .unset, .unset] [(.ref b1018)] X1023 hx hby e0_108_2 rfl rfl ?_
      rcases G1023_0 with ⟨ata, akt, ay0, ay1, ay2, af0, af1, af2, af3, ae0, ae1, ae2⟩ | ⟨ata, akt, ay0, ay1, ay2, az0, az1, az2, af0, af1, af2, af3, ae0, ae1, ae2⟩
      · have alt : @LT.lt Nat _ ata (Array.size T1023.heap) := af3.lt
        have als : @LT.lt Nat _ b1018 (Array.size T1023.heap) := af0.lt
        have f1024 := (f1021.keep K1023 (allS (by omega) all0))
        refine own_cS X1023 hx hZ hown (wd27 hw) (wd28 hw) (by decide) (wd30 hw) (wd29 hw) (rm5n30 l Z a0 hw [] G1 G2 b1018 ata akt (nar .char r_853) (nar .char r_854) (nar .char r_855) ay0 ay1 ay2 T1023.heap n0 (by omega) f1024 A af0 af1 af2 af3 ae0 ae1 ae2 (own_chn _) (own_chn _) (own_chn _)) rfl  [(.ref b1018)] [] 115 0 (hb hby at_112) rfl (by rw [hml]; rfl) rfl rfl (lenOf pd_25 rfl) rfl (by decide) fun v1025 T1025 Lc1025 X1025 hQ1025 => ?_
        obtain ⟨so_1025, rfl, N1025q, K1025, G1025_0⟩ := hQ1025
        have N1025 := Fr.app N1023 N1025q
        have z1025 := K1025.1
        rcases G1025_0 with ⟨hso, hl0, hl1, hl2⟩ | ⟨hstr, hneg⟩
        · rw [hso]
          refine own_rl 119 #[.val (.int i0), .val (.int i1), .val (.int i2), .val (.int i3), .val (.int (3 : Int32)), .val (.int r_853), .val (.int r_854), .val (.int r_855), .val (.ref b1011), .val (.ref b1018), .val (.ref b1018), .unset] [(.ref b1018)] X1025 hx hby e0_115_2 rfl rfl ?_
          refine own_st 122 [] (fun t k => XS.ifnullNo X1025.here hx rfl (hb hby at_119) rfl k) ?_
          refine own_ru 124 [(.ref b1018)] X1025 hx hby e0_122_1 rfl rfl ?_
          have f1026 := (f1024.keep K1025 all0)
          have f1027 := (Exa.keep af0 K1025)
          have f1028 := (af1.keep K1025 nin0)
          have f1029 := (af2.keep K1025 nin0)
          have f1030 := (af3.keep K1025 nin0)
          refine own_cV X1025 hx hZ hown (wd42 hw) (wd32 hw) (notFace_of_selects (args := #[]) (mvT hZ (wd34 hw))) (wd34 hw) (wd33 hw) (by decide) (wd35 hw) (wd8 hw) (rm6d0 l Z a0 hw [] G1 G2 b1018 ata akt (3 : Int32) [(.int ay0), (.int ay1), (.int ay2)] T1025.heap n0 (by omega) f1026 A f1027 f1028 f1029 f1030) rfl f1027 [] [] 127 0 (hb hby at_124) rfl (by rw [hml]; rfl) rfl rfl (lenOf pd_20 rfl) rfl (by decide) fun v1031 T1031 Lc1031 X1031 hQ1031 => ?_
          obtain ⟨rfl, N1031q, e1031⟩ := hQ1031
          have N1031 := Fr.app N1025 N1031q
          refine own_ru 129 [(.int (3 : Int32)), (.int (3 : Int32))] X1031 hx hby e0_127_1 rfl rfl ?_
          refine own_kY 134 X1031 hx (hb hby at_129) rfl (teq (by decide : ((3 : Int32) = (3 : Int32)))).1 (by decide) (by decide) ?_
          refine own_ru 137 [(.int (1 : Int32)), (.int (3 : Int32))] X1031 hx hby e0_134_2 rfl rfl ?_
          refine own_kN 140 X1031 hx (hb hby at_137) rfl (flt (by decide : ¬ ((3 : Int32) < (1 : Int32)))).1 rfl ?_
          refine own_ru 143 [(.int (0 : Int32)), (.ref b1018)] X1031 hx hby e0_140_2 rfl rfl ?_
          refine own_cV X1031 hx hZ hown (wd78 hw) (wd54 hw) (notFace_of_selects (args := #[]) (mvT hZ (wd56 hw))) (wd56 hw) (wd55 hw) (by decide) (wd57 hw) (wd8 hw) (rm11l l Z a0 hw [] G1 G2 b1018 (0 : Int32) ata akt (3 : Int32) [(.int ay0), (.int ay1), (.int ay2)] ay0 T1025.heap n0 (by omega) f1026 A f1027 f1028 f1029 f1030 (by decide) (by decide) rfl) e1031 f1027 [(.int (0 : Int32))] [] 146 0 (hb hby at_143) rfl (by rw [hml]; rfl) rfl rfl (lenOf pd_21 rfl) rfl (by decide) fun v1032 T1032 Lc1032 X1032 hQ1032 => ?_
          obtain ⟨rfl, N1032q, e1032⟩ := hQ1032
          have N1032 := Fr.app N1031 N1032q
          refine own_ru 148 [(.int r_853), (.int (own_lc ay0))] X1032 hx hby e0_146_1 rfl rfl ?_
          refine own_cS X1032 hx hZ hown (wd79 hw) (wd80 hw) (by decide) (wd81 hw) (wd2 hw) (rm17 l Z a0 hw [] r_853 T1025.heap n0 (by omega) U853_0) e1032  [(.int r_853)] [(.int (own_lc ay0))] 151 1 (hb hby at_148) rfl (by rw [hml]; rfl) rfl rfl (lenOf pd_22 rfl) rfl (by decide) fun v1033 T1033 Lc1033 X1033 hQ1033 => ?_
          obtain ⟨rfl, N1033q, e1033⟩ := hQ1033
          have N1033 := Fr.app N1032 N1033q
          refine own_kY 156 X1033 hx (hb hby at_151) rfl (teq (ae0.trans (hl0.trans (by rw [own_nch U853_0])))).1 (by decide) (by decide) ?_
          refine own_ru 159 [(.int (2 : Int32)), (.int (3 : Int32))] X1033 hx hby e0_156_2 rfl rfl ?_
          refine own_kN 162 X1033 hx (hb hby at_159) rfl (flt (by decide : ¬ ((3 : Int32) < (2 : Int32)))).1 rfl ?_
          refine own_ru 165 [(.int (1 : Int32)), (.ref b1018)] X1033 hx hby e0_162_2 rfl rfl ?_
          refine own_cV X1033 hx hZ hown (wd78 hw) (wd54 hw) (notFace_of_selects (args := #[]) (mvT hZ (wd56 hw))) (wd56 hw) (wd55 hw) (by decide) (wd57 hw) (wd8 hw) (rm11l l Z a0 hw [] G1 G2 b1018 (1 : Int32) ata akt (3 : Int32) [(.int ay0), (.int ay1), (.int ay2)] ay1 T1025.heap n0 (by omega) f1026 A f1027 f1028 f1029 f1030 (by decide) (by decide) rfl) e1033 f1027 [(.int (1 : Int32))] [] 168 0 (hb hby at_165) rfl (by rw [hml]; rfl) rfl rfl (lenOf pd_21 rfl) rfl (by decide) fun v1034 T1034 Lc1034 X1034 hQ1034 => ?_
          obtain ⟨rfl, N1034q, e1034⟩ := hQ1034
          have N1034 := Fr.app N1033 N1034q
          refine own_ru 170 [(.int r_854), (.int (own_lc ay1))] X1034 hx hby e0_168_1 rfl rfl ?_
          refine own_cS X1034 hx hZ hown (wd79 hw) (wd80 hw) (by decide) (wd81 hw) (wd2 hw) (rm17 l Z a0 hw [] r_854 T1025.heap n0 (by omega) U854_0) e1034  [(.int r_854)] [(.int (own_lc ay1))] 173 1 (hb hby at_170) rfl (by rw [hml]; rfl) rfl rfl (lenOf pd_22 rfl) rfl (by decide) fun v1035 T1035 Lc1035 X1035 hQ1035 => ?_
          obtain ⟨rfl, N1035q, e1035⟩ := hQ1035
          have N1035 := Fr.app N1034 N1035q
          refine own_kY 178 X1035 hx (hb hby at_173) rfl (teq (ae1.trans (hl1.trans (by rw [own_nch U854_0])))).1 (by decide) (by decide) ?_
          refine own_ru 181 [(.int (3 : Int32)), (.int (3 : Int32))] X1035 hx hby e0_178_2 rfl rfl ?_
          refine own_kN 184 X1035 hx (hb hby at_181) rfl (flt (by decide : ¬ ((3 : Int32) < (3 : Int32)))).1 rfl ?_
          as_aux_lemma =>
            refine own_ru 187 [(.int (2 : Int32)), (.ref b1018)] X1035 hx hby e0_184_2 rfl rfl ?_
            refine own_cV X1035 hx hZ hown (wd78 hw) (wd54 hw) (notFace_of_selects (args := #[]) (mvT hZ (wd56 hw))) (wd56 hw) (wd55 hw) (by decide) (wd57 hw) (wd8 hw) (rm11l l Z a0 hw [] G1 G2 b1018 (2 : Int32) ata akt (3 : Int32) [(.int ay0), (.int ay1), (.int ay2)] ay2 T1025.heap n0 (by omega) f1026 A f1027 f1028 f1029 f1030 (by decide) (by decide) rfl) e1035 f1027 [(.int (2 : Int32))] [] 190 0 (hb hby at_187) rfl (by rw [hml]; rfl) rfl rfl (lenOf pd_21 rfl) rfl (by decide) fun v1036 T1036 Lc1036 X1036 hQ1036 => ?_
            obtain ⟨rfl, N1036q, e1036⟩ := hQ1036
            have N1036 := Fr.app N1035 N1036q
            refine own_ru 192 [(.int r_855), (.int (own_lc ay2))] X1036 hx hby e0_190_1 rfl rfl ?_
            refine own_cS X1036 hx hZ hown (wd79 hw) (wd80 hw) (by decide) (wd81 hw) (wd2 hw) (rm17 l Z a0 hw [] r_855 T1025.heap n0 (by omega) U855_0) e1036  [(.int r_855)] [(.int (own_lc ay2))] 195 1 (hb hby at_192) rfl (by rw [hml]; rfl) rfl rfl (lenOf pd_22 rfl) rfl (by decide) fun v1037 T1037 Lc1037 X1037 hQ1037 => ?_
            obtain ⟨rfl, N1037q, e1037⟩ := hQ1037
            have N1037 := Fr.app N1036 N1037q
            refine own_kY 200 X1037 hx (hb hby at_195) rfl (teq (ae2.trans (hl2.trans (by rw [own_nch U855_0])))).1 (by decide) (by decide) ?_
            refine own_ru 203 [(.int (1 : Int32)), (.int (3 : Int32))] X1037 hx hby e0_200_2 rfl rfl ?_
            refine own_kN 206 X1037 hx (hb hby at_203) rfl (flt (by decide : ¬ ((3 : Int32) < (1 : Int32)))).1 rfl ?_
            refine own_ru 208 [(.int r_853)] X1037 hx hby e0_206_1 rfl rfl ?_
            refine own_cS X1037 hx hZ hown (wd82 hw) (wd83 hw) (by decide) (wd84 hw) (wd2 hw) (rm18 l Z a0 hw [] r_853 T1025.heap n0 (by omega) ) e1037  [(.int r_853)] [] 211 0 (hb hby at_208) rfl (by rw [hml]; rfl) rfl rfl (lenOf pd_26 rfl) rfl (by decide) fun v1038 T1038 Lc1038 X1038 hQ1038 => ?_
            obtain ⟨hvc1038, N1038q, e1038⟩ := hQ1038
            have N1038 := Fr.app N1037 N1038q
            rcases hvc1038 with ⟨rfl, hp208⟩ | ⟨rfl, hp208⟩
            · refine own_iY 242 X1038 hx (hb hby at_211) rfl ((if0 _ _).trans (feq (by decide : ¬ ((1 : Int32) = (0 : Int32)))).2) (by decide) (by decide) ?_
              refine own_ru 243 [(.int (1 : Int32))] X1038 hx hby e0_242_1 rfl rfl ?_
              refine own_go 247 X1038 hx (hb hby at_243) (by decide) (by decide) ?_
              refine own_rl 251 #[.val (.int i0), .val (.int i1), .val (.int i2), .val (.int i3), .val (.int (3 : Int32)), .val (.int r_853), .val (.int r_854), .val (.int r_855), .val (.ref b1011), .val (.ref b1018), .val (.ref b1018), .val (.int (1 : Int32))] [(.int (1 : Int32))] X1038 hx hby e0_247_2 rfl rfl ?_
              refine own_iY 263 X1038 hx (hb hby at_251) rfl ((if0 _ _).trans (feq (by decide : ¬ ((1 : Int32) = (0 : Int32)))).2) (by decide) (by decide) ?_
              refine own_ru 264 [(.int (1 : Int32))] X1038 hx hby e0_263_1 rfl rfl ?_
              have hq1039 : Q0 Z G1 G2 i0 i1 i2 i3 h0 n0 (some (.int (nar .boolean (1 : Int32)))) T1025.heap _ := ⟨rfl, N1038⟩
              exact own_retN X1038 hx hlk (t := .boolean) hrt (by simp) (hb hby at_264) e1038 hq1039 (by decide) (by decide)
            · refine own_iN 214 X1038 hx (hb hby at_211) rfl ((if0 _ _).trans (teq (by decide : ((0 : Int32) = (0 : Int32)))).2) rfl ?_
              refine own_ru 217 [(.int (2 : Int32)), (.int (3 : Int32))] X1038 hx hby e0_214_2 rfl rfl ?_
              refine own_kN 220 X1038 hx (hb hby at_217) rfl (flt (by decide : ¬ ((3 : Int32) < (2 : Int32)))).1 rfl ?_
              refine own_ru 222 [(.int r_854)] X1038 hx hby e0_220_1 rfl rfl ?_
              refine own_cS X1038 hx hZ hown (wd82 hw) (wd83 hw) (by decide) (wd84 hw) (wd2 hw) (rm18 l Z a0 hw [] r_854 T1025.heap n0 (by omega) ) e1038  [(.int r_854)] [] 225 0 (hb hby at_222) rfl (by rw [hml]; rfl) rfl rfl (lenOf pd_26 rfl) rfl (by decide) fun v1040 T1040 Lc1040 X1040 hQ1040 => ?_
              obtain ⟨hvc1040, N1040q, e1040⟩ := hQ1040
              have N1040 := Fr.app N1038 N1040q
              rcases hvc1040 with ⟨rfl, hp222⟩ | ⟨rfl, hp222⟩
              · refine own_iY 242 X1040 hx (hb hby at_225) rfl ((if0 _ _).trans (feq (by decide : ¬ ((1 : Int32) = (0 : Int32)))).2) (by decide) (by decide) ?_
                refine own_ru 243 [(.int (1 : Int32))] X1040 hx hby e0_242_1 rfl rfl ?_
                refine own_go 247 X1040 hx (hb hby at_243) (by decide) (by decide) ?_
                refine own_rl 251 #[.val (.int i0), .val (.int i1), .val (.int i2), .val (.int i3), .val (.int (3 : Int32)), .val (.int r_853), .val (.int r_854), .val (.int r_855), .val (.ref b1011), .val (.ref b1018), .val (.ref b1018), .val (.int (1 : Int32))] [(.int (1 : Int32))] X1040 hx hby e0_247_2 rfl rfl ?_
                refine own_iY 263 X1040 hx (hb hby at_251) rfl ((if0 _ _).trans (feq (by decide : ¬ ((1 : Int32) = (0 : Int32)))).2) (by decide) (by decide) ?_
                refine own_ru 264 [(.int (1 : Int32))] X1040 hx hby e0_263_1 rfl rfl ?_
                have hq1041 : Q0 Z G1 G2 i0 i1 i2 i3 h0 n0 (some (.int (nar .boolean (1 : Int32)))) T1025.heap _ := ⟨rfl, N1040⟩
                exact own_retN X1040 hx hlk (t := .boolean) hrt (by simp) (hb hby at_264) e1040 hq1041 (by decide) (by decide)
              · refine own_iN 228 X1040 hx (hb hby at_225) rfl ((if0 _ _).trans (teq (by decide : ((0 : Int32) = (0 : Int32)))).2) rfl ?_
                refine own_ru 231 [(.int (3 : Int32)), (.int (3 : Int32))] X1040 hx hby e0_228_2 rfl rfl ?_
                refine own_kN 234 X1040 hx (hb hby at_231) rfl (flt (by decide : ¬ ((3 : Int32) < (3 : Int32)))).1 rfl ?_
                refine own_ru 236 [(.int r_855)] X1040 hx hby e0_234_1 rfl rfl ?_
                refine own_cS X1040 hx hZ hown (wd82 hw) (wd83 hw) (by decide) (wd84 hw) (wd2 hw) (rm18 l Z a0 hw [] r_855 T1025.heap n0 (by omega) ) e1040  [(.int r_855)] [] 239 0 (hb hby at_236) rfl (by rw [hml]; rfl) rfl rfl (lenOf pd_26 rfl) rfl (by decide) fun v1042 T1042 Lc1042 X1042 hQ1042 => ?_
                obtain ⟨hvc1042, N1042q, e1042⟩ := hQ1042
                have N1042 := Fr.app N1040 N1042q
                rcases hvc1042 with ⟨rfl, hp236⟩ | ⟨rfl, hp236⟩
                · refine own_iN 242 X1042 hx (hb hby at_239) rfl ((if0 _ _).trans (feq (by decide : ¬ ((1 : Int32) = (0 : Int32)))).1) rfl ?_
                  refine own_ru 243 [(.int (1 : Int32))] X1042 hx hby e0_242_1 rfl rfl ?_
                  refine own_go 247 X1042 hx (hb hby at_243) (by decide) (by decide) ?_
                  refine own_rl 251 #[.val (.int i0), .val (.int i1), .val (.int i2), .val (.int i3), .val (.int (3 : Int32)), .val (.int r_853), .val (.int r_854), .val (.int r_855), .val (.ref b1011), .val (.ref b1018), .val (.ref b1018), .val (.int (1 : Int32))] [(.int (1 : Int32))] X1042 hx hby e0_247_2 rfl rfl ?_
                  refine own_iY 263 X1042 hx (hb hby at_251) rfl ((if0 _ _).trans (feq (by decide : ¬ ((1 : Int32) = (0 : Int32)))).2) (by decide) (by decide) ?_
                  refine own_ru 264 [(.int (1 : Int32))] X1042 hx hby e0_263_1 rfl rfl ?_
                  have hq1043 : Q0 Z G1 G2 i0 i1 i2 i3 h0 n0 (some (.int (nar .boolean (1 : Int32)))) T1025.heap _ := ⟨rfl, N1042⟩
                  exact own_retN X1042 hx hlk (t := .boolean) hrt (by simp) (hb hby at_264) e1042 hq1043 (by decide) (by decide)
                · refine own_iY 246 X1042 hx (hb hby at_239) rfl ((if0 _ _).trans (teq (by decide : ((0 : Int32) = (0 : Int32)))).1) (by decide) (by decide) ?_
                  refine own_rl 251 #[.val (.int i0), .val (.int i1), .val (.int i2), .val (.int i3), .val (.int (3 : Int32)), .val (.int r_853), .val (.int r_854), .val (.int r_855), .val (.ref b1011), .val (.ref b1018), .val (.ref b1018), .val (.int (0 : Int32))] [(.int (0 : Int32))] X1042 hx hby e0_246_3 rfl rfl ?_
                  refine own_iN 254 X1042 hx (hb hby at_251) rfl ((if0 _ _).trans (teq (by decide : ((0 : Int32) = (0 : Int32)))).2) rfl ?_
                  refine own_ru 258 [(.ref b1018), (.ref b1018)] X1042 hx hby e0_254_2 rfl rfl ?_
                  refine own_st 263 [] (fun t k => Jvm.RoadKit.acmp (g := (mkF m 258 #[.val (.int i0), .val (.int i1), .val (.int i2), .val (.int i3), .val (.int (3 : Int32)), .val (.int r_853), .val (.int r_854), .val (.int r_855), .val (.ref b1011), .val (.ref b1018), .val (.ref b1018), .val (.int (0 : Int32))] [(.ref b1018), (.ref b1018)])) X1042 hx rfl rfl rfl (pc0 := 258) (pc' := 263) (same := true) rfl (hb hby at_258) rfl (decide_eq_true rfl) (by decide) (by decide) k) ?_
                  refine own_ru 264 [(.int (1 : Int32))] X1042 hx hby e0_263_1 rfl rfl ?_
                  have hq1044 : Q0 Z G1 G2 i0 i1 i2 i3 h0 n0 (some (.int (nar .boolean (1 : Int32)))) T1025.heap _ := ⟨rfl, N1042⟩
                  exact own_retN X1042 hx hlk (t := .boolean) hrt (by simp) (hb hby at_264) e1042 hq1044 (by decide) (by decide)
        · rcases hstr with ⟨bta, bkt, by0, by1, by2, bf0, bf1, bf2, bf3, be0, be1, be2⟩ | ⟨bta, bkt, by0, by1, by2, bz0, bz1, bz2, bf0, bf1, bf2, bf3, be0, be1, be2⟩
          · have blt : @LT.lt Nat _ bta (Array.size T1025.heap) := bf3.lt
            have bls : @LT.lt Nat _ so_1025 (Array.size T1025.heap) := bf0.lt
            refine own_rl 119 #[.val (.int i0), .val (.int i1), .val (.int i2), .val (.int i3), .val (.int (3 : Int32)), .val (.int r_853), .val (.int r_854), .val (.int r_855), .val (.ref b1011), .val (.ref b1018), .val (.ref so_1025), .unset] [(.ref so_1025)] X1025 hx hby e0_115_2 rfl rfl ?_
            refine own_st 122 [] (fun t k => XS.ifnullNo X1025.here hx rfl (hb hby at_119) rfl k) ?_
            refine own_ru 124 [(.ref so_1025)] X1025 hx hby e0_122_1 rfl rfl ?_
            have f1045 := (f1024.keep K1025 all0)
            refine own_cV X1025 hx hZ hown (wd42 hw) (wd32 hw) (notFace_of_selects (args := #[]) (mvT hZ (wd34 hw))) (wd34 hw) (wd33 hw) (by decide) (wd35 hw) (wd8 hw) (rm6d0 l Z a0 hw [] G1 G2 so_1025 bta bkt (3 : Int32) [(.int by0), (.int by1), (.int by2)] T1025.heap n0 (by omega) f1045 A bf0 bf1 bf2 bf3) rfl bf0 [] [] 127 0 (hb hby at_124) rfl (by rw [hml]; rfl) rfl rfl (lenOf pd_20 rfl) rfl (by decide) fun v1046 T1046 Lc1046 X1046 hQ1046 => ?_
            obtain ⟨rfl, N1046q, e1046⟩ := hQ1046
            have N1046 := Fr.app N1025 N1046q
            refine own_ru 129 [(.int (3 : Int32)), (.int (3 : Int32))] X1046 hx hby e0_127_1 rfl rfl ?_
            refine own_kY 134 X1046 hx (hb hby at_129) rfl (teq (by decide : ((3 : Int32) = (3 : Int32)))).1 (by decide) (by decide) ?_
            refine own_ru 137 [(.int (1 : Int32)), (.int (3 : Int32))] X1046 hx hby e0_134_2 rfl rfl ?_
            refine own_kN 140 X1046 hx (hb hby at_137) rfl (flt (by decide : ¬ ((3 : Int32) < (1 : Int32)))).1 rfl ?_
            refine own_ru 143 [(.int (0 : Int32)), (.ref so_1025)] X1046 hx hby e0_140_2 rfl rfl ?_
            refine own_cV X1046 hx hZ hown (wd78 hw) (wd54 hw) (notFace_of_selects (args := #[]) (mvT hZ (wd56 hw))) (wd56 hw) (wd55 hw) (by decide) (wd57 hw) (wd8 hw) (rm11l l Z a0 hw [] G1 G2 so_1025 (0 : Int32) bta bkt (3 : Int32) [(.int by0), (.int by1), (.int by2)] by0 T1025.heap n0 (by omega) f1045 A bf0 bf1 bf2 bf3 (by decide) (by decide) rfl) e1046 bf0 [(.int (0 : Int32))] [] 146 0 (hb hby at_143) rfl (by rw [hml]; rfl) rfl rfl (lenOf pd_21 rfl) rfl (by decide) fun v1047 T1047 Lc1047 X1047 hQ1047 => ?_
            obtain ⟨rfl, N1047q, e1047⟩ := hQ1047
            have N1047 := Fr.app N1046 N1047q
            refine own_ru 148 [(.int r_853), (.int (own_lc by0))] X1047 hx hby e0_146_1 rfl rfl ?_
            refine own_cS X1047 hx hZ hown (wd79 hw) (wd80 hw) (by decide) (wd81 hw) (wd2 hw) (rm17 l Z a0 hw [] r_853 T1025.heap n0 (by omega) U853_0) e1047  [(.int r_853)] [(.int (own_lc by0))] 151 1 (hb hby at_148) rfl (by rw [hml]; rfl) rfl rfl (lenOf pd_22 rfl) rfl (by decide) fun v1048 T1048 Lc1048 X1048 hQ1048 => ?_
            obtain ⟨rfl, N1048q, e1048⟩ := hQ1048
            have N1048 := Fr.app N1047 N1048q
            refine own_kY 156 X1048 hx (hb hby at_151) rfl (teq (be0.trans (by rw [own_nch U853_0]))).1 (by decide) (by decide) ?_
            refine own_ru 159 [(.int (2 : Int32)), (.int (3 : Int32))] X1048 hx hby e0_156_2 rfl rfl ?_
            refine own_kN 162 X1048 hx (hb hby at_159) rfl (flt (by decide : ¬ ((3 : Int32) < (2 : Int32)))).1 rfl ?_
            refine own_ru 165 [(.int (1 : Int32)), (.ref so_1025)] X1048 hx hby e0_162_2 rfl rfl ?_
            refine own_cV X1048 hx hZ hown (wd78 hw) (wd54 hw) (notFace_of_selects (args := #[]) (mvT hZ (wd56 hw))) (wd56 hw) (wd55 hw) (by decide) (wd57 hw) (wd8 hw) (rm11l l Z a0 hw [] G1 G2 so_1025 (1 : Int32) bta bkt (3 : Int32) [(.int by0), (.int by1), (.int by2)] by1 T1025.heap n0 (by omega) f1045 A bf0 bf1 bf2 bf3 (by decide) (by decide) rfl) e1048 bf0 [(.int (1 : Int32))] [] 168 0 (hb hby at_165) rfl (by rw [hml]; rfl) rfl rfl (lenOf pd_21 rfl) rfl (by decide) fun v1049 T1049 Lc1049 X1049 hQ1049 => ?_
            obtain ⟨rfl, N1049q, e1049⟩ := hQ1049
            have N1049 := Fr.app N1048 N1049q
            refine own_ru 170 [(.int r_854), (.int (own_lc by1))] X1049 hx hby e0_168_1 rfl rfl ?_
            refine own_cS X1049 hx hZ hown (wd79 hw) (wd80 hw) (by decide) (wd81 hw) (wd2 hw) (rm17 l Z a0 hw [] r_854 T1025.heap n0 (by omega) U854_0) e1049  [(.int r_854)] [(.int (own_lc by1))] 173 1 (hb hby at_170) rfl (by rw [hml]; rfl) rfl rfl (lenOf pd_22 rfl) rfl (by decide) fun v1050 T1050 Lc1050 X1050 hQ1050 => ?_
            obtain ⟨rfl, N1050q, e1050⟩ := hQ1050
            have N1050 := Fr.app N1049 N1050q
            refine own_kY 178 X1050 hx (hb hby at_173) rfl (teq (be1.trans (by rw [own_nch U854_0]))).1 (by decide) (by decide) ?_
            refine own_ru 181 [(.int (3 : Int32)), (.int (3 : Int32))] X1050 hx hby e0_178_2 rfl rfl ?_
            refine own_kN 184 X1050 hx (hb hby at_181) rfl (flt (by decide : ¬ ((3 : Int32) < (3 : Int32)))).1 rfl ?_
            as_aux_lemma =>
              refine own_ru 187 [(.int (2 : Int32)), (.ref so_1025)] X1050 hx hby e0_184_2 rfl rfl ?_
              refine own_cV X1050 hx hZ hown (wd78 hw) (wd54 hw) (notFace_of_selects (args := #[]) (mvT hZ (wd56 hw))) (wd56 hw) (wd55 hw) (by decide) (wd57 hw) (wd8 hw) (rm11l l Z a0 hw [] G1 G2 so_1025 (2 : Int32) bta bkt (3 : Int32) [(.int by0), (.int by1), (.int by2)] by2 T1025.heap n0 (by omega) f1045 A bf0 bf1 bf2 bf3 (by decide) (by decide) rfl) e1050 bf0 [(.int (2 : Int32))] [] 190 0 (hb hby at_187) rfl (by rw [hml]; rfl) rfl rfl (lenOf pd_21 rfl) rfl (by decide) fun v1051 T1051 Lc1051 X1051 hQ1051 => ?_
              obtain ⟨rfl, N1051q, e1051⟩ := hQ1051
              have N1051 := Fr.app N1050 N1051q
              refine own_ru 192 [(.int r_855), (.int (own_lc by2))] X1051 hx hby e0_190_1 rfl rfl ?_
              refine own_cS X1051 hx hZ hown (wd79 hw) (wd80 hw) (by decide) (wd81 hw) (wd2 hw) (rm17 l Z a0 hw [] r_855 T1025.heap n0 (by omega) U855_0) e1051  [(.int r_855)] [(.int (own_lc by2))] 195 1 (hb hby at_192) rfl (by rw [hml]; rfl) rfl rfl (lenOf pd_22 rfl) rfl (by decide) fun v1052 T1052 Lc1052 X1052 hQ1052 => ?_
              obtain ⟨rfl, N1052q, e1052⟩ := hQ1052
              have N1052 := Fr.app N1051 N1052q
              refine own_kY 200 X1052 hx (hb hby at_195) rfl (teq (be2.trans (by rw [own_nch U855_0]))).1 (by decide) (by decide) ?_
              refine own_ru 203 [(.int (1 : Int32)), (.int (3 : Int32))] X1052 hx hby e0_200_2 rfl rfl ?_
              refine own_kN 206 X1052 hx (hb hby at_203) rfl (flt (by decide : ¬ ((3 : Int32) < (1 : Int32)))).1 rfl ?_
              refine own_ru 208 [(.int r_853)] X1052 hx hby e0_206_1 rfl rfl ?_
              refine own_cS X1052 hx hZ hown (wd82 hw) (wd83 hw) (by decide) (wd84 hw) (wd2 hw) (rm18 l Z a0 hw [] r_853 T1025.heap n0 (by omega) ) e1052  [(.int r_853)] [] 211 0 (hb hby at_208) rfl (by rw [hml]; rfl) rfl rfl (lenOf pd_26 rfl) rfl (by decide) fun v1053 T1053 Lc1053 X1053 hQ1053 => ?_
              obtain ⟨hvc1053, N1053q, e1053⟩ := hQ1053
              have N1053 := Fr.app N1052 N1053q
              rcases hvc1053 with ⟨rfl, hp208⟩ | ⟨rfl, hp208⟩
              · refine own_iY 242 X1053 hx (hb hby at_211) rfl ((if0 _ _).trans (feq (by decide : ¬ ((1 : Int32) = (0 : Int32)))).2) (by decide) (by decide) ?_
                refine own_ru 243 [(.int (1 : Int32))] X1053 hx hby e0_242_1 rfl rfl ?_
                refine own_go 247 X1053 hx (hb hby at_243) (by decide) (by decide) ?_
                refine own_rl 251 #[.val (.int i0), .val (.int i1), .val (.int i2), .val (.int i3), .val (.int (3 : Int32)), .val (.int r_853), .val (.int r_854), .val (.int r_855), .val (.ref b1011), .val (.ref b1018), .val (.ref so_1025), .val (.int (1 : Int32))] [(.int (1 : Int32))] X1053 hx hby e0_247_2 rfl rfl ?_
                refine own_iY 263 X1053 hx (hb hby at_251) rfl ((if0 _ _).trans (feq (by decide : ¬ ((1 : Int32) = (0 : Int32)))).2) (by decide) (by decide) ?_
                refine own_ru 264 [(.int (1 : Int32))] X1053 hx hby e0_263_1 rfl rfl ?_
                have hq1054 : Q0 Z G1 G2 i0 i1 i2 i3 h0 n0 (some (.int (nar .boolean (1 : Int32)))) T1025.heap _ := ⟨rfl, N1053⟩
                exact own_retN X1053 hx hlk (t := .boolean) hrt (by simp) (hb hby at_264) e1053 hq1054 (by decide) (by decide)
              · refine own_iN 214 X1053 hx (hb hby at_211) rfl ((if0 _ _).trans (teq (by decide : ((0 : Int32) = (0 : Int32)))).2) rfl ?_
                refine own_ru 217 [(.int (2 : Int32)), (.int (3 : Int32))] X1053 hx hby e0_214_2 rfl rfl ?_
                refine own_kN 220 X1053 hx (hb hby at_217) rfl (flt (by decide : ¬ ((3 : Int32) < (2 : Int32)))).1 rfl ?_
                refine own_ru 222 [(.int r_854)] X1053 hx hby e0_220_1 rfl rfl ?_
                refine own_cS X1053 hx hZ hown (wd82 hw) (wd83 hw) (by decide) (wd84 hw) (wd2 hw) (rm18 l Z a0 hw [] r_854 T1025.heap n0 (by omega) ) e1053  [(.int r_854)] [] 225 0 (hb hby at_222) rfl (by rw [hml]; rfl) rfl rfl (lenOf pd_26 rfl) rfl (by decide) fun v1055 T1055 Lc1055 X1055 hQ1055 => ?_
                obtain ⟨hvc1055, N1055q, e1055⟩ := hQ1055
                have N1055 := Fr.app N1053 N1055q
                rcases hvc1055 with ⟨rfl, hp222⟩ | ⟨rfl, hp222⟩
                · refine own_iY 242 X1055 hx (hb hby at_225) rfl ((if0 _ _).trans (feq (by decide : ¬ ((1 : Int32) = (0 : Int32)))).2) (by decide) (by decide) ?_
                  refine own_ru 243 [(.int (1 : Int32))] X1055 hx hby e0_242_1 rfl rfl ?_
                  refine own_go 247 X1055 hx (hb hby at_243) (by decide) (by decide) ?_
                  refine own_rl 251 #[.val (.int i0), .val (.int i1), .val (.int i2), .val (.int i3), .val (.int (3 : Int32)), .val (.int r_853), .val (.int r_854), .val (.int r_855), .val (.ref b1011), .val (.ref b1018), .val (.ref so_1025), .val (.int (1 : Int32))] [(.int (1 : Int32))] X1055 hx hby e0_247_2 rfl rfl ?_
                  refine own_iY 263 X1055 hx (hb hby at_251) rfl ((if0 _ _).trans (feq (by decide : ¬ ((1 : Int32) = (0 : Int32)))).2) (by decide) (by decide) ?_
                  refine own_ru 264 [(.int (1 : Int32))] X1055 hx hby e0_263_1 rfl rfl ?_
                  have hq1056 : Q0 Z G1 G2 i0 i1 i2 i3 h0 n0 (some (.int (nar .boolean (1 : Int32)))) T1025.heap _ := ⟨rfl, N1055⟩
                  exact own_retN X1055 hx hlk (t := .boolean) hrt (by simp) (hb hby at_264) e1055 hq1056 (by decide) (by decide)
                · refine own_iN 228 X1055 hx (hb hby at_225) rfl ((if0 _ _).trans (teq (by decide : ((0 : Int32) = (0 : Int32)))).2) rfl ?_
                  refine own_ru 231 [(.int (3 : Int32)), (.int (3 : Int32))] X1055 hx hby e0_228_2 rfl rfl ?_
                  refine own_kN 234 X1055 hx (hb hby at_231) rfl (flt (by decide : ¬ ((3 : Int32) < (3 : Int32)))).1 rfl ?_
                  refine own_ru 236 [(.int r_855)] X1055 hx hby e0_234_1 rfl rfl ?_
                  refine own_cS X1055 hx hZ hown (wd82 hw) (wd83 hw) (by decide) (wd84 hw) (wd2 hw) (rm18 l Z a0 hw [] r_855 T1025.heap n0 (by omega) ) e1055  [(.int r_855)] [] 239 0 (hb hby at_236) rfl (by rw [hml]; rfl) rfl rfl (lenOf pd_26 rfl) rfl (by decide) fun v1057 T1057 Lc1057 X1057 hQ1057 => ?_
                  obtain ⟨hvc1057, N1057q, e1057⟩ := hQ1057
                  have N1057 := Fr.app N1055 N1057q
                  rcases hvc1057 with ⟨rfl, hp236⟩ | ⟨rfl, hp236⟩
                  · refine own_iN 242 X1057 hx (hb hby at_239) rfl ((if0 _ _).trans (feq (by decide : ¬ ((1 : Int32) = (0 : Int32)))).1) rfl ?_
                    refine own_ru 243 [(.int (1 : Int32))] X1057 hx hby e0_242_1 rfl rfl ?_
                    refine own_go 247 X1057 hx (hb hby at_243) (by decide) (by decide) ?_
                    refine own_rl 251 #[.val (.int i0), .val (.int i1), .val (.int i2), .val (.int i3), .val (.int (3 : Int32)), .val (.int r_853), .val (.int r_854), .val (.int r_855), .val (.ref b1011), .val (.ref b1018), .val (.ref so_1025), .val (.int (1 : Int32))] [(.int (1 : Int32))] X1057 hx hby e0_247_2 rfl rfl ?_
                    refine own_iY 263 X1057 hx (hb hby at_251) rfl ((if0 _ _).trans (feq (by decide : ¬ ((1 : Int32) = (0 : Int32)))).2) (by decide) (by decide) ?_
                    refine own_ru 264 [(.int (1 : Int32))] X1057 hx hby e0_263_1 rfl rfl ?_
                    have hq1058 : Q0 Z G1 G2 i0 i1 i2 i3 h0 n0 (some (.int (nar .boolean (1 : Int32)))) T1025.heap _ := ⟨rfl, N1057⟩
                    exact own_retN X1057 hx hlk (t := .boolean) hrt (by simp) (hb hby at_264) e1057 hq1058 (by decide) (by decide)
                  · refine own_iY 246 X1057 hx (hb hby at_239) rfl ((if0 _ _).trans (teq (by decide : ((0 : Int32) = (0 : Int32)))).1) (by decide) (by decide) ?_
                    refine own_rl 251 #[.val (.int i0), .val (.int i1), .val (.int i2), .val (.int i3), .val (.int (3 : Int32)), .val (.int r_853), .val (.int r_854), .val (.int r_855), .val (.ref b1011), .val (.ref b1018), .val (.ref so_1025), .val (.int (0 : Int32))] [(.int (0 : Int32))] X1057 hx hby e0_246_3 rfl rfl ?_
                    refine own_iN 254 X1057 hx (hb hby at_251) rfl ((if0 _ _).trans (teq (by decide : ((0 : Int32) = (0 : Int32)))).2) rfl ?_
                    exact absurd ⟨(by rw [own_nch U853_0]; exact own_nup hp208), (by rw [own_nch U854_0]; exact own_nup hp222), (by rw [own_nch U855_0]; exact own_nup hp236)⟩ hneg
          · have blt : @LT.lt Nat _ bta (Array.size T1025.heap) := bf3.lt
            have bls : @LT.lt Nat _ so_1025 (Array.size T1025.heap) := bf0.lt
            refine own_rl 119 #[.val (.int i0), .val (.int i1), .val (.int i2), .val (.int i3), .val (.int (3 : Int32)), .val (.int r_853), .val (.int r_854), .val (.int r_855), .val (.ref b1011), .val (.ref b1018), .val (.ref so_1025), .unset] [(.ref so_1025)] X1025 hx hby e0_115_2 rfl rfl ?_
            refine own_st 122 [] (fun t k => XS.ifnullNo X1025.here hx rfl (hb hby at_119) rfl k) ?_
            refine own_ru 124 [(.ref so_1025)] X1025 hx hby e0_122_1 rfl rfl ?_
            have f1059 := (f1024.keep K1025 all0)
            refine own_cV X1025 hx hZ hown (wd42 hw) (wd32 hw) (notFace_of_selects (args := #[]) (mvT hZ (wd34 hw))) (wd34 hw) (wd33 hw) (by decide) (wd35 hw) (wd8 hw) (rm6d1 l Z a0 hw [] G1 G2 so_1025 bta bkt (6 : Int32) [(.int by0), (.int bz0), (.int by1), (.int bz1), (.int by2), (.int bz2)] T1025.heap n0 (by omega) f1059 A bf0 bf1 bf2 bf3) rfl bf0 [] [] 127 0 (hb hby at_124) rfl (by rw [hml]; rfl) rfl rfl (lenOf pd_20 rfl) rfl (by decide) fun v1060 T1060 Lc1060 X1060 hQ1060 => ?_
            obtain ⟨rfl, N1060q, e1060⟩ := hQ1060
            have N1060 := Fr.app N1025 N1060q
            refine own_ru 129 [(.int (3 : Int32)), (.int (3 : Int32))] X1060 hx hby e0_127_1 rfl rfl ?_
            refine own_kY 134 X1060 hx (hb hby at_129) rfl (teq (by decide : ((3 : Int32) = (3 : Int32)))).1 (by decide) (by decide) ?_
            refine own_ru 137 [(.int (1 : Int32)), (.int (3 : Int32))] X1060 hx hby e0_134_2 rfl rfl ?_
            refine own_kN 140 X1060 hx (hb hby at_137) rfl (flt (by decide : ¬ ((3 : Int32) < (1 : Int32)))).1 rfl ?_
            refine own_ru 143 [(.int (0 : Int32)), (.ref so_1025)] X1060 hx hby e0_140_2 rfl rfl ?_
            refine own_cV X1060 hx hZ hown (wd78 hw) (wd54 hw) (notFace_of_selects (args := #[]) (mvT hZ (wd56 hw))) (wd56 hw) (wd55 hw) (by decide) (wd57 hw) (wd8 hw) (rm11u l Z a0 hw [] G1 G2 so_1025 (0 : Int32) bta bkt (6 : Int32) [(.int by0), (.int bz0), (.int by1), (.int bz1), (.int by2), (.int bz2)] by0 bz0 T1025.heap n0 (by omega) f1059 A bf0 bf1 bf2 bf3 (by decide) (by decide) ⟨by decide, by decide⟩ ⟨by decide, by decide⟩ rfl rfl) e1060 bf0 [(.int (0 : Int32))] [] 146 0 (hb hby at_143) rfl (by rw [hml]; rfl) rfl rfl (lenOf pd_21 rfl) rfl (by decide) fun v1061 T1061 Lc1061 X1061 hQ1061 => ?_
            obtain ⟨rfl, N1061q, e1061⟩ := hQ1061
            have N1061 := Fr.app N1060 N1061q
            refine own_ru 148 [(.int r_853), (.int (own_u by0 bz0))] X1061 hx hby e0_146_1 rfl rfl ?_
            refine own_cS X1061 hx hZ hown (wd79 hw) (wd80 hw) (by decide) (wd81 hw) (wd2 hw) (rm17 l Z a0 hw [] r_853 T1025.heap n0 (by omega) U853_0) e1061  [(.int r_853)] [(.int (own_u by0 bz0))] 151 1 (hb hby at_148) rfl (by rw [hml]; rfl) rfl rfl (lenOf pd_22 rfl) rfl (by decide) fun v1062 T1062 Lc1062 X1062 hQ1062 => ?_
            obtain ⟨rfl, N1062q, e1062⟩ := hQ1062
            have N1062 := Fr.app N1061 N1062q
            refine own_kY 156 X1062 hx (hb hby at_151) rfl (teq (be0.trans (by rw [own_nch U853_0]))).1 (by decide) (by decide) ?_
            refine own_ru 159 [(.int (2 : Int32)), (.int (3 : Int32))] X1062 hx hby e0_156_2 rfl rfl ?_
            refine own_kN 162 X1062 hx (hb hby at_159) rfl (flt (by decide : ¬ ((3 : Int32) < (2 : Int32)))).1 rfl ?_
            refine own_ru 165 [(.int (1 : Int32)), (.ref so_1025)] X1062 hx hby e0_162_2 rfl rfl ?_
            refine own_cV X1062 hx hZ hown (wd78 hw) (wd54 hw) (notFace_of_selects (args := #[]) (mvT hZ (wd56 hw))) (wd56 hw) (wd55 hw) (by decide) (wd57 hw) (wd8 hw) (rm11u l Z a0 hw [] G1 G2 so_1025 (1 : Int32) bta bkt (6 : Int32) [(.int by0), (.int bz0), (.int by1), (.int bz1), (.int by2), (.int bz2)] by1 bz1 T1025.heap n0 (by omega) f1059 A bf0 bf1 bf2 bf3 (by decide) (by decide) ⟨by decide, by decide⟩ ⟨by decide, by decide⟩ rfl rfl) e1062 bf0 [(.int (1 : Int32))] [] 168 0 (hb hby at_165) rfl (by rw [hml]; rfl) rfl rfl (lenOf pd_21 rfl) rfl (by decide) fun v1063 T1063 Lc1063 X1063 hQ1063 => ?_
            obtain ⟨rfl, N1063q, e1063⟩ := hQ1063
            have N1063 := Fr.app N1062 N1063q
            refine own_ru 170 [(.int r_854), (.int (own_u by1 bz1))] X1063 hx hby e0_168_1 rfl rfl ?_
            refine own_cS X1063 hx hZ hown (wd79 hw) (wd80 hw) (by decide) (wd81 hw) (wd2 hw) (rm17 l Z a0 hw [] r_854 T1025.heap n0 (by omega) U854_0) e1063  [(.int r_854)] [(.int (own_u by1 bz1))] 173 1 (hb hby at_170) rfl (by rw [hml]; rfl) rfl rfl (lenOf pd_22 rfl) rfl (by decide) fun v1064 T1064 Lc1064 X1064 hQ1064 => ?_
            obtain ⟨rfl, N1064q, e1064⟩ := hQ1064
            have N1064 := Fr.app N1063 N1064q
            refine own_kY 178 X1064 hx (hb hby at_173) rfl (teq (be1.trans (by rw [own_nch U854_0]))).1 (by decide) (by decide) ?_
            refine own_ru 181 [(.int (3 : Int32)), (.int (3 : Int32))] X1064 hx hby e0_178_2 rfl rfl ?_
            refine own_kN 184 X1064 hx (hb hby at_181) rfl (flt (by decide : ¬ ((3 : Int32) < (3 : Int32)))).1 rfl ?_
            as_aux_lemma =>
              refine own_ru 187 [(.int (2 : Int32)), (.ref so_1025)] X1064 hx hby e0_184_2 rfl rfl ?_
              refine own_cV X1064 hx hZ hown (wd78 hw) (wd54 hw) (notFace_of_selects (args := #[]) (mvT hZ (wd56 hw))) (wd56 hw) (wd55 hw) (by decide) (wd57 hw) (wd8 hw) (rm11u l Z a0 hw [] G1 G2 so_1025 (2 : Int32) bta bkt (6 : Int32) [(.int by0), (.int bz0), (.int by1), (.int bz1), (.int by2), (.int bz2)] by2 bz2 T1025.heap n0 (by omega) f1059 A bf0 bf1 bf2 bf3 (by decide) (by decide) ⟨by decide, by decide⟩ ⟨by decide, by decide⟩ rfl rfl) e1064 bf0 [(.int (2 : Int32))] [] 190 0 (hb hby at_187) rfl (by rw [hml]; rfl) rfl rfl (lenOf pd_21 rfl) rfl (by decide) fun v1065 T1065 Lc1065 X1065 hQ1065 => ?_
              obtain ⟨rfl, N1065q, e1065⟩ := hQ1065
              have N1065 := Fr.app N1064 N1065q
              refine own_ru 192 [(.int r_855), (.int (own_u by2 bz2))] X1065 hx hby e0_190_1 rfl rfl ?_
              refine own_cS X1065 hx hZ hown (wd79 hw) (wd80 hw) (by decide) (wd81 hw) (wd2 hw) (rm17 l Z a0 hw [] r_855 T1025.heap n0 (by omega) U855_0) e1065  [(.int r_855)] [(.int (own_u by2 bz2))] 195 1 (hb hby at_192) rfl (by rw [hml]; rfl) rfl rfl (lenOf pd_22 rfl) rfl (by decide) fun v1066 T1066 Lc1066 X1066 hQ1066 => ?_
              obtain ⟨rfl, N1066q, e1066⟩ := hQ1066
              have N1066 := Fr.app N1065 N1066q
              refine own_kY 200 X1066 hx (hb hby at_195) rfl (teq (be2.trans (by rw [own_nch U855_0]))).1 (by decide) (by decide) ?_
              refine own_ru 203 [(.int (1 : Int32)), (.int (3 : Int32))] X1066 hx hby e0_200_2 rfl rfl ?_
              refine own_kN 206 X1066 hx (hb hby at_203) rfl (flt (by decide : ¬ ((3 : Int32) < (1 : Int32)))).1 rfl ?_
              refine own_ru 208 [(.int r_853)] X1066 hx hby e0_206_1 rfl rfl ?_
              refine own_cS X1066 hx hZ hown (wd82 hw) (wd83 hw) (by decide) (wd84 hw) (wd2 hw) (rm18 l Z a0 hw [] r_853 T1025.heap n0 (by omega) ) e1066  [(.int r_853)] [] 211 0 (hb hby at_208) rfl (by rw [hml]; rfl) rfl rfl (lenOf pd_26 rfl) rfl (by decide) fun v1067 T1067 Lc1067 X1067 hQ1067 => ?_
              obtain ⟨hvc1067, N1067q, e1067⟩ := hQ1067
              have N1067 := Fr.app N1066 N1067q
              rcases hvc1067 with ⟨rfl, hp208⟩ | ⟨rfl, hp208⟩
              · refine own_iY 242 X1067 hx (hb hby at_211) rfl ((if0 _ _).trans (feq (by decide : ¬ ((1 : Int32) = (0 : Int32)))).2) (by decide) (by decide) ?_
                refine own_ru 243 [(.int (1 : Int32))] X1067 hx hby e0_242_1 rfl rfl ?_
                refine own_go 247 X1067 hx (hb hby at_243) (by decide) (by decide) ?_
                refine own_rl 251 #[.val (.int i0), .val (.int i1), .val (.int i2), .val (.int i3), .val (.int (3 : Int32)), .val (.int r_853), .val (.int r_854), .val (.int r_855), .val (.ref b1011), .val (.ref b1018), .val (.ref so_1025), .val (.int (1 : Int32))] [(.int (1 : Int32))] X1067 hx hby e0_247_2 rfl rfl ?_
                refine own_iY 263 X1067 hx (hb hby at_251) rfl ((if0 _ _).trans (feq (by decide : ¬ ((1 : Int32) = (0 : Int32)))).2) (by decide) (by decide) ?_
                refine own_ru 264 [(.int (1 : Int32))] X1067 hx hby e0_263_1 rfl rfl ?_
                have hq1068 : Q0 Z G1 G2 i0 i1 i2 i3 h0 n0 (some (.int (nar .boolean (1 : Int32)))) T1025.heap _ := ⟨rfl, N1067⟩
                exact own_retN X1067 hx hlk (t := .boolean) hrt (by simp) (hb hby at_264) e1067 hq1068 (by decide) (by decide)
              · refine own_iN 214 X1067 hx (hb hby at_211) rfl ((if0 _ _).trans (teq (by decide : ((0 : Int32) = (0 : Int32)))).2) rfl ?_
                refine own_ru 217 [(.int (2 : Int32)), (.int (3 : Int32))] X1067 hx hby e0_214_2 rfl rfl ?_
                refine own_kN 220 X1067 hx (hb hby at_217) rfl (flt (by decide : ¬ ((3 : Int32) < (2 : Int32)))).1 rfl ?_
                refine own_ru 222 [(.int r_854)] X1067 hx hby e0_220_1 rfl rfl ?_
                refine own_cS X1067 hx hZ hown (wd82 hw) (wd83 hw) (by decide) (wd84 hw) (wd2 hw) (rm18 l Z a0 hw [] r_854 T1025.heap n0 (by omega) ) e1067  [(.int r_854)] [] 225 0 (hb hby at_222) rfl (by rw [hml]; rfl) rfl rfl (lenOf pd_26 rfl) rfl (by decide) fun v1069 T1069 Lc1069 X1069 hQ1069 => ?_
                obtain ⟨hvc1069, N1069q, e1069⟩ := hQ1069
                have N1069 := Fr.app N1067 N1069q
                rcases hvc1069 with ⟨rfl, hp222⟩ | ⟨rfl, hp222⟩
                · refine own_iY 242 X1069 hx (hb hby at_225) rfl ((if0 _ _).trans (feq (by decide : ¬ ((1 : Int32) = (0 : Int32)))).2) (by decide) (by decide) ?_
                  refine own_ru 243 [(.int (1 : Int32))] X1069 hx hby e0_242_1 rfl rfl ?_
                  refine own_go 247 X1069 hx (hb hby at_243) (by decide) (by decide) ?_
                  refine own_rl 251 #[.val (.int i0), .val (.int i1), .val (.int i2), .val (.int i3), .val (.int (3 : Int32)), .val (.int r_853), .val (.int r_854), .val (.int r_855), .val (.ref b1011), .val (.ref b1018), .val (.ref so_1025), .val (.int (1 : Int32))] [(.int (1 : Int32))] X1069 hx hby e0_247_2 rfl rfl ?_
                  refine own_iY 263 X1069 hx (hb hby at_251) rfl ((if0 _ _).trans (feq (by decide : ¬ ((1 : Int32) = (0 : Int32)))).2) (by decide) (by decide) ?_
                  refine own_ru 264 [(.int (1 : Int32))] X1069 hx hby e0_263_1 rfl rfl ?_
                  have hq1070 : Q0 Z G1 G2 i0 i1 i2 i3 h0 n0 (some (.int (nar .boolean (1 : Int32)))) T1025.heap _ := ⟨rfl, N1069⟩
                  exact own_retN X1069 hx hlk (t := .boolean) hrt (by simp) (hb hby at_264) e1069 hq1070 (by decide) (by decide)
                · refine own_iN 228 X1069 hx (hb hby at_225) rfl ((if0 _ _).trans (teq (by decide : ((0 : Int32) = (0 : Int32)))).2) rfl ?_
                  refine own_ru 231 [(.int (3 : Int32)), (.int (3 : Int32))] X1069 hx hby e0_228_2 rfl rfl ?_
                  refine own_kN 234 X1069 hx (hb hby at_231) rfl (flt (by decide : ¬ ((3 : Int32) < (3 : Int32)))).1 rfl ?_
                  refine own_ru 236 [(.int r_855)] X1069 hx hby e0_234_1 rfl rfl ?_
                  refine own_cS X1069 hx hZ hown (wd82 hw) (wd83 hw) (by decide) (wd84 hw) (wd2 hw) (rm18 l Z a0 hw [] r_855 T1025.heap n0 (by omega) ) e1069  [(.int r_855)] [] 239 0 (hb hby at_236) rfl (by rw [hml]; rfl) rfl rfl (lenOf pd_26 rfl) rfl (by decide) fun v1071 T1071 Lc1071 X1071 hQ1071 => ?_
                  obtain ⟨hvc1071, N1071q, e1071⟩ := hQ1071
                  have N1071 := Fr.app N1069 N1071q
                  rcases hvc1071 with ⟨rfl, hp236⟩ | ⟨rfl, hp236⟩
                  · refine own_iN 242 X1071 hx (hb hby at_239) rfl ((if0 _ _).trans (feq (by decide : ¬ ((1 : Int32) = (0 : Int32)))).1) rfl ?_
                    refine own_ru 243 [(.int (1 : Int32))] X1071 hx hby e0_242_1 rfl rfl ?_
                    refine own_go 247 X1071 hx (hb hby at_243) (by decide) (by decide) ?_
                    refine own_rl 251 #[.val (.int i0), .val (.int i1), .val (.int i2), .val (.int i3), .val (.int (3 : Int32)), .val (.int r_853), .val (.int r_854), .val (.int r_855), .val (.ref b1011), .val (.ref b1018), .val (.ref so_1025), .val (.int (1 : Int32))] [(.int (1 : Int32))] X1071 hx hby e0_247_2 rfl rfl ?_
                    refine own_iY 263 X1071 hx (hb hby at_251) rfl ((if0 _ _).trans (feq (by decide : ¬ ((1 : Int32) = (0 : Int32)))).2) (by decide) (by decide) ?_
                    refine own_ru 264 [(.int (1 : Int32))] X1071 hx hby e0_263_1 rfl rfl ?_
                    have hq1072 : Q0 Z G1 G2 i0 i1 i2 i3 h0 n0 (some (.int (nar .boolean (1 : Int32)))) T1025.heap _ := ⟨rfl, N1071⟩
                    exact own_retN X1071 hx hlk (t := .boolean) hrt (by simp) (hb hby at_264) e1071 hq1072 (by decide) (by decide)
                  · refine own_iY 246 X1071 hx (hb hby at_239) rfl ((if0 _ _).trans (teq (by decide : ((0 : Int32) = (0 : Int32)))).1) (by decide) (by decide) ?_
                    refine own_rl 251 #[.val (.int i0), .val (.int i1), .val (.int i2), .val (.int i3), .val (.int (3 : Int32)), .val (.int r_853), .val (.int r_854), .val (.int r_855), .val (.ref b1011), .val (.ref b1018), .val (.ref so_1025), .val (.int (0 : Int32))] [(.int (0 : Int32))] X1071 hx hby e0_246_3 rfl rfl ?_
                    refine own_iN 254 X1071 hx (hb hby at_251) rfl ((if0 _ _).trans (teq (by decide : ((0 : Int32) = (0 : Int32)))).2) rfl ?_
                    exact absurd ⟨(by rw [own_nch U853_0]; exact own_nup hp208), (by rw [own_nch U854_0]; exact own_nup hp222), (by rw [own_nch U855_0]; exact own_nup hp236)⟩ hneg
      · have alt : @LT.lt Nat _ ata (Array.size T1023.heap) := af3.lt
        have als : @LT.lt Nat _ b1018 (Array.size T1023.heap) := af0.lt
        have f1073 := (f1021.keep K1023 (allS (by omega) all0))
        refine own_cS X1023 hx hZ hown (wd27 hw) (wd28 hw) (by decide) (wd30 hw) (wd29 hw) (rm5n31 l Z a0 hw [] G1 G2 b1018 ata akt (nar .char r_853) (nar .char r_854) (nar .char r_855) ay0 ay1 ay2 az0 az1 az2 T1023.heap n0 (by omega) f1073 A af0 af1 af2 af3 ae0 ae1 ae2 (own_chn _) (own_chn _) (own_chn _)) rfl  [(.ref b1018)] [] 115 0 (hb hby at_112) rfl (by rw [hml]; rfl) rfl rfl (lenOf pd_25 rfl) rfl (by decide) fun v1074 T1074 Lc1074 X1074 hQ1074 => ?_
        obtain ⟨so_1074, rfl, N1074q, K1074, G1074_0⟩ := hQ1074
        have N1074 := Fr.app N1023 N1074q
        have z1074 := K1074.1
        rcases G1074_0 with ⟨hso, hl0, hl1, hl2⟩ | ⟨hstr, hneg⟩
        · rw [hso]
          refine own_rl 119 #[.val (.int i0), .val (.int i1), .val (.int i2), .val (.int i3), .val (.int (3 : Int32)), .val (.int r_853), .val (.int r_854), .val (.int r_855), .val (.ref b1011), .val (.ref b1018), .val (.ref b1018), .unset] [(.ref b1018)] X1074 hx hby e0_115_2 rfl rfl ?_
          refine own_st 122 [] (fun t k => XS.ifnullNo X1074.here hx rfl (hb hby at_119) rfl k) ?_
          refine own_ru 124 [(.ref b1018)] X1074 hx hby e0_122_1 rfl rfl ?_
          have f1075 := (f1073.keep K1074 all0)
          have f1076 := (Exa.keep af0 K1074)
          have f1077 := (af1.keep K1074 nin0)
          have f1078 := (af2.keep K1074 nin0)
          have f1079 := (af3.keep K1074 nin0)
          refine own_cV X1074 hx hZ hown (wd42 hw) (wd32 hw) (notFace_of_selects (args := #[]) (mvT hZ (wd34 hw))) (wd34 hw) (wd33 hw) (by decide) (wd35 hw) (wd8 hw) (rm6d1 l Z a0 hw [] G1 G2 b1018 ata akt (6 : Int32) [(.int ay0), (.int az0), (.int ay1), (.int az1), (.int ay2), (.int az2)] T1074.heap n0 (by omega) f1075 A f1076 f1077 f1078 f1079) rfl f1076 [] [] 127 0 (hb hby at_124) rfl (by rw [hml]; rfl) rfl rfl (lenOf pd_20 rfl) rfl (by decide) fun v1080 T1080 Lc1080 X1080 hQ1080 => ?_
          obtain ⟨rfl, N1080q, e1080⟩ := hQ1080
          have N1080 := Fr.app N1074 N1080q
          refine own_ru 129 [(.int (3 : Int32)), (.int (3 : Int32))] X1080 hx hby e0_127_1 rfl rfl ?_
          refine own_kY 134 X1080 hx (hb hby at_129) rfl (teq (by decide : ((3 : Int32) = (3 : Int32)))).1 (by decide) (by decide) ?_
          refine own_ru 137 [(.int (1 : Int32)), (.int (3 : Int32))] X1080 hx hby e0_134_2 rfl rfl ?_
          refine own_kN 140 X1080 hx (hb hby at_137) rfl (flt (by decide : ¬ ((3 : Int32) < (1 : Int32)))).1 rfl ?_
          refine own_ru 143 [(.int (0 : Int32)), (.ref b1018)] X1080 hx hby e0_140_2 rfl rfl ?_
          refine own_cV X1080 hx hZ hown (wd78 hw) (wd54 hw) (notFace_of_selects (args := #[]) (mvT hZ (wd56 hw))) (wd56 hw) (wd55 hw) (by decide) (wd57 hw) (wd8 hw) (rm11u l Z a0 hw [] G1 G2 b1018 (0 : Int32) ata akt (6 : Int32) [(.int ay0), (.int az0), (.int ay1), (.int az1), (.int ay2), (.int az2)] ay0 az0 T1074.heap n0 (by omega) f1075 A f1076 f1077 f1078 f1079 (by decide) (by decide) ⟨by decide, by decide⟩ ⟨by decide, by decide⟩ rfl rfl) e1080 f1076 [(.int (0 : Int32))] [] 146 0 (hb hby at_143) rfl (by rw [hml]; rfl) rfl rfl (lenOf pd_21 rfl) rfl (by decide) fun v1081 T1081 Lc1081 X1081 hQ1081 => ?_
          obtain ⟨rfl, N1081q, e1081⟩ := hQ1081
          have N1081 := Fr.app N1080 N1081q
          refine own_ru 148 [(.int r_853), (.int (own_u ay0 az0))] X1081 hx hby e0_146_1 rfl rfl ?_
          refine own_cS X1081 hx hZ hown (wd79 hw) (wd80 hw) (by decide) (wd81 hw) (wd2 hw) (rm17 l Z a0 hw [] r_853 T1074.heap n0 (by omega) U853_0) e1081  [(.int r_853)] [(.int (own_u ay0 az0))] 151 1 (hb hby at_148) rfl (by rw [hml]; rfl) rfl rfl (lenOf pd_22 rfl) rfl (by decide) fun v1082 T1082 Lc1082 X1082 hQ1082 => ?_
          obtain ⟨rfl, N1082q, e1082⟩ := hQ1082
          have N1082 := Fr.app N1081 N1082q
          refine own_kY 156 X1082 hx (hb hby at_151) rfl (teq (ae0.trans (hl0.trans (by rw [own_nch U853_0])))).1 (by decide) (by decide) ?_
          refine own_ru 159 [(.int (2 : Int32)), (.int (3 : Int32))] X1082 hx hby e0_156_2 rfl rfl ?_
          refine own_kN 162 X1082 hx (hb hby at_159) rfl (flt (by decide : ¬ ((3 : Int32) < (2 : Int32)))).1 rfl ?_
          refine own_ru 165 [(.int (1 : Int32)), (.ref b1018)] X1082 hx hby e0_162_2 rfl rfl ?_
          refine own_cV X1082 hx hZ hown (wd78 hw) (wd54 hw) (notFace_of_selects (args := #[]) (mvT hZ (wd56 hw))) (wd56 hw) (wd55 hw) (by decide) (wd57 hw) (wd8 hw) (rm11u l Z a0 hw [] G1 G2 b1018 (1 : Int32) ata akt (6 : Int32) [(.int ay0), (.int az0), (.int ay1), (.int az1), (.int ay2), (.int az2)] ay1 az1 T1074.heap n0 (by omega) f1075 A f1076 f1077 f1078 f1079 (by decide) (by decide) ⟨by decide, by decide⟩ ⟨by decide, by decide⟩ rfl rfl) e1082 f1076 [(.int (1 : Int32))] [] 168 0 (hb hby at_165) rfl (by rw [hml]; rfl) rfl rfl (lenOf pd_21 rfl) rfl (by decide) fun v1083 T1083 Lc1083 X1083 hQ1083 => ?_
          obtain ⟨rfl, N1083q, e1083⟩ := hQ1083
          have N1083 := Fr.app N1082 N1083q
          refine own_ru 170 [(.int r_854), (.int (own_u ay1 az1))] X1083 hx hby e0_168_1 rfl rfl ?_
          refine own_cS X1083 hx hZ hown (wd79 hw) (wd80 hw) (by decide) (wd81 hw) (wd2 hw) (rm17 l Z a0 hw [] r_854 T1074.heap n0 (by omega) U854_0) e1083  [(.int r_854)] [(.int (own_u ay1 az1))] 173 1 (hb hby at_170) rfl (by rw [hml]; rfl) rfl rfl (lenOf pd_22 rfl) rfl (by decide) fun v1084 T1084 Lc1084 X1084 hQ1084 => ?_
          obtain ⟨rfl, N1084q, e1084⟩ := hQ1084
          have N1084 := Fr.app N1083 N1084q
          refine own_kY 178 X1084 hx (hb hby at_173) rfl (teq (ae1.trans (hl1.trans (by rw [own_nch U854_0])))).1 (by decide) (by decide) ?_
          refine own_ru 181 [(.int (3 : Int32)), (.int (3 : Int32))] X1084 hx hby e0_178_2 rfl rfl ?_
          refine own_kN 184 X1084 hx (hb hby at_181) rfl (flt (by decide : ¬ ((3 : Int32) < (3 : Int32)))).1 rfl ?_
          as_aux_lemma =>
            refine own_ru 187 [(.int (2 : Int32)), (.ref b1018)] X1084 hx hby e0_184_2 rfl rfl ?_
            refine own_cV X1084 hx hZ hown (wd78 hw) (wd54 hw) (notFace_of_selects (args := #[]) (mvT hZ (wd56 hw))) (wd56 hw) (wd55 hw) (by decide) (wd57 hw) (wd8 hw) (rm11u l Z a0 hw [] G1 G2 b1018 (2 : Int32) ata akt (6 : Int32) [(.int ay0), (.int az0), (.int ay1), (.int az1), (.int ay2), (.int az2)] ay2 az2 T1074.heap n0 (by omega) f1075 A f1076 f1077 f1078 f1079 (by decide) (by decide) ⟨by decide, by decide⟩ ⟨by decide, by decide⟩ rfl rfl) e1084 f1076 [(.int (2 : Int32))] [] 190 0 (hb hby at_187) rfl (by rw [hml]; rfl) rfl rfl (lenOf pd_21 rfl) rfl (by decide) fun v1085 T1085 Lc1085 X1085 hQ1085 => ?_
            obtain ⟨rfl, N1085q, e1085⟩ := hQ1085
            have N1085 := Fr.app N1084 N1085q
            refine own_ru 192 [(.int r_855), (.int (own_u ay2 az2))] X1085 hx hby e0_190_1 rfl rfl ?_
            refine own_cS X1085 hx hZ hown (wd79 hw) (wd80 hw) (by decide) (wd81 hw) (wd2 hw) (rm17 l Z a0 hw [] r_855 T1074.heap n0 (by omega) U855_0) e1085  [(.int r_855)] [(.int (own_u ay2 az2))] 195 1 (hb hby at_192) rfl (by rw [hml]; rfl) rfl rfl (lenOf pd_22 rfl) rfl (by decide) fun v1086 T1086 Lc1086 X1086 hQ1086 => ?_
            obtain ⟨rfl, N1086q, e1086⟩ := hQ1086
            have N1086 := Fr.app N1085 N1086q
            refine own_kY 200 X1086 hx (hb hby at_195) rfl (teq (ae2.trans (hl2.trans (by rw [own_nch U855_0])))).1 (by decide) (by decide) ?_
            refine own_ru 203 [(.int (1 : Int32)), (.int (3 : Int32))] X1086 hx hby e0_200_2 rfl rfl ?_
            refine own_kN 206 X1086 hx (hb hby at_203) rfl (flt (by decide : ¬ ((3 : Int32) < (1 : Int32)))).1 rfl ?_
            refine own_ru 208 [(.int r_853)] X1086 hx hby e0_206_1 rfl rfl ?_
            refine own_cS X1086 hx hZ hown (wd82 hw) (wd83 hw) (by decide) (wd84 hw) (wd2 hw) (rm18 l Z a0 hw [] r_853 T1074.heap n0 (by omega) ) e1086  [(.int r_853)] [] 211 0 (hb hby at_208) rfl (by rw [hml]; rfl) rfl rfl (lenOf pd_26 rfl) rfl (by decide) fun v1087 T1087 Lc1087 X1087 hQ1087 => ?_
            obtain ⟨hvc1087, N1087q, e1087⟩ := hQ1087
            have N1087 := Fr.app N1086 N1087q
            rcases hvc1087 with ⟨rfl, hp208⟩ | ⟨rfl, hp208⟩
            · refine own_iY 242 X1087 hx (hb hby at_211) rfl ((if0 _ _).trans (feq (by decide : ¬ ((1 : Int32) = (0 : Int32)))).2) (by decide) (by decide) ?_
              refine own_ru 243 [(.int (1 : Int32))] X1087 hx hby e0_242_1 rfl rfl ?_
              refine own_go 247 X1087 hx (hb hby at_243) (by decide) (by decide) ?_
              refine own_rl 251 #[.val (.int i0), .val (.int i1), .val (.int i2), .val (.int i3), .val (.int (3 : Int32)), .val (.int r_853), .val (.int r_854), .val (.int r_855), .val (.ref b1011), .val (.ref b1018), .val (.ref b1018), .val (.int (1 : Int32))] [(.int (1 : Int32))] X1087 hx hby e0_247_2 rfl rfl ?_
              refine own_iY 263 X1087 hx (hb hby at_251) rfl ((if0 _ _).trans (feq (by decide : ¬ ((1 : Int32) = (0 : Int32)))).2) (by decide) (by decide) ?_
              refine own_ru 264 [(.int (1 : Int32))] X1087 hx hby e0_263_1 rfl rfl ?_
              have hq1088 : Q0 Z G1 G2 i0 i1 i2 i3 h0 n0 (some (.int (nar .boolean (1 : Int32)))) T1074.heap _ := ⟨rfl, N1087⟩
              exact own_retN X1087 hx hlk (t := .boolean) hrt (by simp) (hb hby at_264) e1087 hq1088 (by decide) (by decide)
            · refine own_iN 214 X1087 hx (hb hby at_211) rfl ((if0 _ _).trans (teq (by decide : ((0 : Int32) = (0 : Int32)))).2) rfl ?_
              refine own_ru 217 [(.int (2 : Int32)), (.int (3 : Int32))] X1087 hx hby e0_214_2 rfl rfl ?_
              refine own_kN 220 X1087 hx (hb hby at_217) rfl (flt (by decide : ¬ ((3 : Int32) < (2 : Int32)))).1 rfl ?_
              refine own_ru 222 [(.int r_854)] X1087 hx hby e0_220_1 rfl rfl ?_
              refine own_cS X1087 hx hZ hown (wd82 hw) (wd83 hw) (by decide) (wd84 hw) (wd2 hw) (rm18 l Z a0 hw [] r_854 T1074.heap n0 (by omega) ) e1087  [(.int r_854)] [] 225 0 (hb hby at_222) rfl (by rw [hml]; rfl) rfl rfl (lenOf pd_26 rfl) rfl (by decide) fun v1089 T1089 Lc1089 X1089 hQ1089 => ?_
              obtain ⟨hvc1089, N1089q, e1089⟩ := hQ1089
              have N1089 := Fr.app N1087 N1089q
              rcases hvc1089 with ⟨rfl, hp222⟩ | ⟨rfl, hp222⟩
              · refine own_iY 242 X1089 hx (hb hby at_225) rfl ((if0 _ _).trans (feq (by decide : ¬ ((1 : Int32) = (0 : Int32)))).2) (by decide) (by decide) ?_
                refine own_ru 243 [(.int (1 : Int32))] X1089 hx hby e0_242_1 rfl rfl ?_
                refine own_go 247 X1089 hx (hb hby at_243) (by decide) (by decide) ?_
                refine own_rl 251 #[.val (.int i0), .val (.int i1), .val (.int i2), .val (.int i3), .val (.int (3 : Int32)), .val (.int r_853), .val (.int r_854), .val (.int r_855), .val (.ref b1011), .val (.ref b1018), .val (.ref b1018), .val (.int (1 : Int32))] [(.int (1 : Int32))] X1089 hx hby e0_247_2 rfl rfl ?_
                refine own_iY 263 X1089 hx (hb hby at_251) rfl ((if0 _ _).trans (feq (by decide : ¬ ((1 : Int32) = (0 : Int32)))).2) (by decide) (by decide) ?_
                refine own_ru 264 [(.int (1 : Int32))] X1089 hx hby e0_263_1 rfl rfl ?_
                have hq1090 : Q0 Z G1 G2 i0 i1 i2 i3 h0 n0 (some (.int (nar .boolean (1 : Int32)))) T1074.heap _ := ⟨rfl, N1089⟩
                exact own_retN X1089 hx hlk (t := .boolean) hrt (by simp) (hb hby at_264) e1089 hq1090 (by decide) (by decide)
              · refine own_iN 228 X1089 hx (hb hby at_225) rfl ((if0 _ _).trans (teq (by decide : ((0 : Int32) = (0 : Int32)))).2) rfl ?_
                refine own_ru 231 [(.int (3 : Int32)), (.int (3 : Int32))] X1089 hx hby e0_228_2 rfl rfl ?_
                refine own_kN 234 X1089 hx (hb hby at_231) rfl (flt (by decide : ¬ ((3 : Int32) < (3 : Int32)))).1 rfl ?_
                refine own_ru 236 [(.int r_855)] X1089 hx hby e0_234_1 rfl rfl ?_
                refine own_cS X1089 hx hZ hown (wd82 hw) (wd83 hw) (by decide) (wd84 hw) (wd2 hw) (rm18 l Z a0 hw [] r_855 T1074.heap n0 (by omega) ) e1089  [(.int r_855)] [] 239 0 (hb hby at_236) rfl (by rw [hml]; rfl) rfl rfl (lenOf pd_26 rfl) rfl (by decide) fun v1091 T1091 Lc1091 X1091 hQ1091 => ?_
                obtain ⟨hvc1091, N1091q, e1091⟩ := hQ1091
                have N1091 := Fr.app N1089 N1091q
                rcases hvc1091 with ⟨rfl, hp236⟩ | ⟨rfl, hp236⟩
                · refine own_iN 242 X1091 hx (hb hby at_239) rfl ((if0 _ _).trans (feq (by decide : ¬ ((1 : Int32) = (0 : Int32)))).1) rfl ?_
                  refine own_ru 243 [(.int (1 : Int32))] X1091 hx hby e0_242_1 rfl rfl ?_
                  refine own_go 247 X1091 hx (hb hby at_243) (by decide) (by decide) ?_
                  refine own_rl 251 #[.val (.int i0), .val (.int i1), .val (.int i2), .val (.int i3), .val (.int (3 : Int32)), .val (.int r_853), .val (.int r_854), .val (.int r_855), .val (.ref b1011), .val (.ref b1018), .val (.ref b1018), .val (.int (1 : Int32))] [(.int (1 : Int32))] X1091 hx hby e0_247_2 rfl rfl ?_
                  refine own_iY 263 X1091 hx (hb hby at_251) rfl ((if0 _ _).trans (feq (by decide : ¬ ((1 : Int32) = (0 : Int32)))).2) (by decide) (by decide) ?_
                  refine own_ru 264 [(.int (1 : Int32))] X1091 hx hby e0_263_1 rfl rfl ?_
                  have hq1092 : Q0 Z G1 G2 i0 i1 i2 i3 h0 n0 (some (.int (nar .boolean (1 : Int32)))) T1074.heap _ := ⟨rfl, N1091⟩
                  exact own_retN X1091 hx hlk (t := .boolean) hrt (by simp) (hb hby at_264) e1091 hq1092 (by decide) (by decide)
                · refine own_iY 246 X1091 hx (hb hby at_239) rfl ((if0 _ _).trans (teq (by decide : ((0 : Int32) = (0 : Int32)))).1) (by decide) (by decide) ?_
                  refine own_rl 251 #[.val (.int i0), .val (.int i1), .val (.int i2), .val (.int i3), .val (.int (3 : Int32)), .val (.int r_853), .val (.int r_854), .val (.int r_855), .val (.ref b1011), .val (.ref b1018), .val (.ref b1018), .val (.int (0 : Int32))] [(.int (0 : Int32))] X1091 hx hby e0_246_3 rfl rfl ?_
                  refine own_iN 254 X1091 hx (hb hby at_251) rfl ((if0 _ _).trans (teq (by decide : ((0 : Int32) = (0 : Int32)))).2) rfl ?_
                  refine own_ru 258 [(.ref b1018), (.ref b1018)] X1091 hx hby e0_254_2 rfl rfl ?_
                  refine own_st 263 [] (fun t k => Jvm.RoadKit.acmp (g := (mkF m 258 #[.val (.int i0), .val (.int i1), .val (.int i2), .val (.int i3), .val (.int (3 : Int32)), .val (.int r_853), .val (.int r_854), .val (.int r_855), .val (.ref b1011), .val (.ref b1018), .val (.ref b1018), .val (.int (0 : Int32))] [(.ref b1018), (.ref b1018)])) X1091 hx rfl rfl rfl (pc0 := 258) (pc' := 263) (same := true) rfl (hb hby at_258) rfl (decide_eq_true rfl) (by decide) (by decide) k) ?_
                  refine own_ru 264 [(.int (1 : Int32))] X1091 hx hby e0_263_1 rfl rfl ?_
                  have hq1093 : Q0 Z G1 G2 i0 i1 i2 i3 h0 n0 (some (.int (nar .boolean (1 : Int32)))) T1074.heap _ := ⟨rfl, N1091⟩
                  exact own_retN X1091 hx hlk (t := .boolean) hrt (by simp) (hb hby at_264) e1091 hq1093 (by decide) (by decide)
        · rcases hstr with ⟨bta, bkt, by0, by1, by2, bf0, bf1, bf2, bf3, be0, be1, be2⟩ | ⟨bta, bkt, by0, by1, by2, bz0, bz1, bz2, bf0, bf1, bf2, bf3, be0, be1, be2⟩
          · have blt : @LT.lt Nat _ bta (Array.size T1074.heap) := bf3.lt
            have bls : @LT.lt Nat _ so_1074 (Array.size T1074.heap) := bf0.lt
            refine own_rl 119 #[.val (.int i0), .val (.int i1), .val (.int i2), .val (.int i3), .val (.int (3 : Int32)), .val (.int r_853), .val (.int r_854), .val (.int r_855), .val (.ref b1011), .val (.ref b1018), .val (.ref so_1074), .unset] [(.ref so_1074)] X1074 hx hby e0_115_2 rfl rfl ?_
            refine own_st 122 [] (fun t k => XS.ifnullNo X1074.here hx rfl (hb hby at_119) rfl k) ?_
            refine own_ru 124 [(.ref so_1074)] X1074 hx hby e0_122_1 rfl rfl ?_
            have f1094 := (f1073.keep K1074 all0)
            refine own_cV X1074 hx hZ hown (wd42 hw) (wd32 hw) (notFace_of_selects (args := #[]) (mvT hZ (wd34 hw))) (wd34 hw) (wd33 hw) (by decide) (wd35 hw) (wd8 hw) (rm6d0 l Z a0 hw [] G1 G2 so_1074 bta bkt (3 : Int32) [(.int by0), (.int by1), (.int by2)] T1074.heap n0 (by omega) f1094 A bf0 bf1 bf2 bf3) rfl bf0 [] [] 127 0 (hb hby at_124) rfl (by rw [hml]; rfl) rfl rfl (lenOf pd_20 rfl) rfl (by decide) fun v1095 T1095 Lc1095 X1095 hQ1095 => ?_
            obtain ⟨rfl, N1095q, e1095⟩ := hQ1095
            have N1095 := Fr.app N1074 N1095q
            refine own_ru 129 [(.int (3 : Int32)), (.int (3 : Int32))] X1095 hx hby e0_127_1 rfl rfl ?_
            refine own_kY 134 X1095 hx (hb hby at_129) rfl (teq (by decide : ((3 : Int32) = (3 : Int32)))).1 (by decide) (by decide) ?_
            refine own_ru 137 [(.int (1 : Int32)), (.int (3 : Int32))] X1095 hx hby e0_134_2 rfl rfl ?_
            refine own_kN 140 X1095 hx (hb hby at_137) rfl (flt (by decide : ¬ ((3 : Int32) < (1 : Int32)))).1 rfl ?_
            refine own_ru 143 [(.int (0 : Int32)), (.ref so_1074)] X1095 hx hby e0_140_2 rfl rfl ?_
            refine own_cV X1095 hx hZ hown (wd78 hw) (wd54 hw) (notFace_of_selects (args := #[]) (mvT hZ (wd56 hw))) (wd56 hw) (wd55 hw) (by decide) (wd57 hw) (wd8 hw) (rm11l l Z a0 hw [] G1 G2 so_1074 (0 : Int32) bta bkt (3 : Int32) [(.int by0), (.int by1), (.int by2)] by0 T1074.heap n0 (by omega) f1094 A bf0 bf1 bf2 bf3 (by decide) (by decide) rfl) e1095 bf0 [(.int (0 : Int32))] [] 146 0 (hb hby at_143) rfl (by rw [hml]; rfl) rfl rfl (lenOf pd_21 rfl) rfl (by decide) fun v1096 T1096 Lc1096 X1096 hQ1096 => ?_
            obtain ⟨rfl, N1096q, e1096⟩ := hQ1096
            have N1096 := Fr.app N1095 N1096q
            refine own_ru 148 [(.int r_853), (.int (own_lc by0))] X1096 hx hby e0_146_1 rfl rfl ?_
            refine own_cS X1096 hx hZ hown (wd79 hw) (wd80 hw) (by decide) (wd81 hw) (wd2 hw) (rm17 l Z a0 hw [] r_853 T1074.heap n0 (by omega) U853_0) e1096  [(.int r_853)] [(.int (own_lc by0))] 151 1 (hb hby at_148) rfl (by rw [hml]; rfl) rfl rfl (lenOf pd_22 rfl) rfl (by decide) fun v1097 T1097 Lc1097 X1097 hQ1097 => ?_
            obtain ⟨rfl, N1097q, e1097⟩ := hQ1097
            have N1097 := Fr.app N1096 N1097q
            refine own_kY 156 X1097 hx (hb hby at_151) rfl (teq (be0.trans (by rw [own_nch U853_0]))).1 (by decide) (by decide) ?_
            refine own_ru 159 [(.int (2 : Int32)), (.int (3 : Int32))] X1097 hx hby e0_156_2 rfl rfl ?_
            refine own_kN 162 X1097 hx (hb hby at_159) rfl (flt (by decide : ¬ ((3 : Int32) < (2 : Int32)))).1 rfl ?_
            refine own_ru 165 [(.int (1 : Int32)), (.ref so_1074)] X1097 hx hby e0_162_2 rfl rfl ?_
            refine own_cV X1097 hx hZ hown (wd78 hw) (wd54 hw) (notFace_of_selects (args := #[]) (mvT hZ (wd56 hw))) (wd56 hw) (wd55 hw) (by decide) (wd57 hw) (wd8 hw) (rm11l l Z a0 hw [] G1 G2 so_1074 (1 : Int32) bta bkt (3 : Int32) [(.int by0), (.int by1), (.int by2)] by1 T1074.heap n0 (by omega) f1094 A bf0 bf1 bf2 bf3 (by decide) (by decide) rfl) e1097 bf0 [(.int (1 : Int32))] [] 168 0 (hb hby at_165) rfl (by rw [hml]; rfl) rfl rfl (lenOf pd_21 rfl) rfl (by decide) fun v1098 T1098 Lc1098 X1098 hQ1098 => ?_
            obtain ⟨rfl, N1098q, e1098⟩ := hQ1098
            have N1098 := Fr.app N1097 N1098q
            refine own_ru 170 [(.int r_854), (.int (own_lc by1))] X1098 hx hby e0_168_1 rfl rfl ?_
            refine own_cS X1098 hx hZ hown (wd79 hw) (wd80 hw) (by decide) (wd81 hw) (wd2 hw) (rm17 l Z a0 hw [] r_854 T1074.heap n0 (by omega) U854_0) e1098  [(.int r_854)] [(.int (own_lc by1))] 173 1 (hb hby at_170) rfl (by rw [hml]; rfl) rfl rfl (lenOf pd_22 rfl) rfl (by decide) fun v1099 T1099 Lc1099 X1099 hQ1099 => ?_
            obtain ⟨rfl, N1099q, e1099⟩ := hQ1099
            have N1099 := Fr.app N1098 N1099q
            refine own_kY 178 X1099 hx (hb hby at_173) rfl (teq (be1.trans (by rw [own_nch U854_0]))).1 (by decide) (by decide) ?_
            refine own_ru 181 [(.int (3 : Int32)), (.int (3 : Int32))] X1099 hx hby e0_178_2 rfl rfl ?_
            refine own_kN 184 X1099 hx (hb hby at_181) rfl (flt (by decide : ¬ ((3 : Int32) < (3 : Int32)))).1 rfl ?_
            as_aux_lemma =>
              refine own_ru 187 [(.int (2 : Int32)), (.ref so_1074)] X1099 hx hby e0_184_2 rfl rfl ?_
              refine own_cV X1099 hx hZ hown (wd78 hw) (wd54 hw) (notFace_of_selects (args := #[]) (mvT hZ (wd56 hw))) (wd56 hw) (wd55 hw) (by decide) (wd57 hw) (wd8 hw) (rm11l l Z a0 hw [] G1 G2 so_1074 (2 : Int32) bta bkt (3 : Int32) [(.int by0), (.int by1), (.int by2)] by2 T1074.heap n0 (by omega) f1094 A bf0 bf1 bf2 bf3 (by decide) (by decide) rfl) e1099 bf0 [(.int (2 : Int32))] [] 190 0 (hb hby at_187) rfl (by rw [hml]; rfl) rfl rfl (lenOf pd_21 rfl) rfl (by decide) fun v1100 T1100 Lc1100 X1100 hQ1100 => ?_
              obtain ⟨rfl, N1100q, e1100⟩ := hQ1100
              have N1100 := Fr.app N1099 N1100q
              refine own_ru 192 [(.int r_855), (.int (own_lc by2))] X1100 hx hby e0_190_1 rfl rfl ?_
              refine own_cS X1100 hx hZ hown (wd79 hw) (wd80 hw) (by decide) (wd81 hw) (wd2 hw) (rm17 l Z a0 hw [] r_855 T1074.heap n0 (by omega) U855_0) e1100  [(.int r_855)] [(.int (own_lc by2))] 195 1 (hb hby at_192) rfl (by rw [hml]; rfl) rfl rfl (lenOf pd_22 rfl) rfl (by decide) fun v1101 T1101 Lc1101 X1101 hQ1101 => ?_
              obtain ⟨rfl, N1101q, e1101⟩ := hQ1101
              have N1101 := Fr.app N1100 N1101q
              refine own_kY 200 X1101 hx (hb hby at_195) rfl (teq (be2.trans (by rw [own_nch U855_0]))).1 (by decide) (by decide) ?_
              refine own_ru 203 [(.int (1 : Int32)), (.int (3 : Int32))] X1101 hx hby e0_200_2 rfl rfl ?_
              refine own_kN 206 X1101 hx (hb hby at_203) rfl (flt (by decide : ¬ ((3 : Int32) < (1 : Int32)))).1 rfl ?_
              refine own_ru 208 [(.int r_853)] X1101 hx hby e0_206_1 rfl rfl ?_
              refine own_cS X1101 hx hZ hown (wd82 hw) (wd83 hw) (by decide) (wd84 hw) (wd2 hw) (rm18 l Z a0 hw [] r_853 T1074.heap n0 (by omega) ) e1101  [(.int r_853)] [] 211 0 (hb hby at_208) rfl (by rw [hml]; rfl) rfl rfl (lenOf pd_26 rfl) rfl (by decide) fun v1102 T1102 Lc1102 X1102 hQ1102 => ?_
              obtain ⟨hvc1102, N1102q, e1102⟩ := hQ1102
              have N1102 := Fr.app N1101 N1102q
              rcases hvc1102 with ⟨rfl, hp208⟩ | ⟨rfl, hp208⟩
              · refine own_iY 242 X1102 hx (hb hby at_211) rfl ((if0 _ _).trans (feq (by decide : ¬ ((1 : Int32) = (0 : Int32)))).2) (by decide) (by decide) ?_
                refine own_ru 243 [(.int (1 : Int32))] X1102 hx hby e0_242_1 rfl rfl ?_
                refine own_go 247 X1102 hx (hb hby at_243) (by decide) (by decide) ?_
                refine own_rl 251 #[.val (.int i0), .val (.int i1), .val (.int i2), .val (.int i3), .val (.int (3 : Int32)), .val (.int r_853), .val (.int r_854), .val (.int r_855), .val (.ref b1011), .val (.ref b1018), .val (.ref so_1074), .val (.int (1 : Int32))] [(.int (1 : Int32))] X1102 hx hby e0_247_2 rfl rfl ?_
                refine own_iY 263 X1102 hx (hb hby at_251) rfl ((if0 _ _).trans (feq (by decide : ¬ ((1 : Int32) = (0 : Int32)))).2) (by decide) (by decide) ?_
                refine own_ru 264 [(.int (1 : Int32))] X1102 hx hby e0_263_1 rfl rfl ?_
                have hq1103 : Q0 Z G1 G2 i0 i1 i2 i3 h0 n0 (some (.int (nar .boolean (1 : Int32)))) T1074.heap _ := ⟨rfl, N1102⟩
                exact own_retN X1102 hx hlk (t := .boolean) hrt (by simp) (hb hby at_264) e1102 hq1103 (by decide) (by decide)
              · refine own_iN 214 X1102 hx (hb hby at_211) rfl ((if0 _ _).trans (teq (by decide : ((0 : Int32) = (0 : Int32)))).2) rfl ?_
                refine own_ru 217 [(.int (2 : Int32)), (.int (3 : Int32))] X1102 hx hby e0_214_2 rfl rfl ?_
                refine own_kN 220 X1102 hx (hb hby at_217) rfl (flt (by decide : ¬ ((3 : Int32) < (2 : Int32)))).1 rfl ?_
                refine own_ru 222 [(.int r_854)] X1102 hx hby e0_220_1 rfl rfl ?_
                refine own_cS X1102 hx hZ hown (wd82 hw) (wd83 hw) (by decide) (wd84 hw) (wd2 hw) (rm18 l Z a0 hw [] r_854 T1074.heap n0 (by omega) ) e1102  [(.int r_854)] [] 225 0 (hb hby at_222) rfl (by rw [hml]; rfl) rfl rfl (lenOf pd_26 rfl) rfl (by decide) fun v1104 T1104 Lc1104 X1104 hQ1104 => ?_
                obtain ⟨hvc1104, N1104q, e1104⟩ := hQ1104
                have N1104 := Fr.app N1102 N1104q
                rcases hvc1104 with ⟨rfl, hp222⟩ | ⟨rfl, hp222⟩
                · refine own_iY 242 X1104 hx (hb hby at_225) rfl ((if0 _ _).trans (feq (by decide : ¬ ((1 : Int32) = (0 : Int32)))).2) (by decide) (by decide) ?_
                  refine own_ru 243 [(.int (1 : Int32))] X1104 hx hby e0_242_1 rfl rfl ?_
                  refine own_go 247 X1104 hx (hb hby at_243) (by decide) (by decide) ?_
                  refine own_rl 251 #[.val (.int i0), .val (.int i1), .val (.int i2), .val (.int i3), .val (.int (3 : Int32)), .val (.int r_853), .val (.int r_854), .val (.int r_855), .val (.ref b1011), .val (.ref b1018), .val (.ref so_1074), .val (.int (1 : Int32))] [(.int (1 : Int32))] X1104 hx hby e0_247_2 rfl rfl ?_
                  refine own_iY 263 X1104 hx (hb hby at_251) rfl ((if0 _ _).trans (feq (by decide : ¬ ((1 : Int32) = (0 : Int32)))).2) (by decide) (by decide) ?_
                  refine own_ru 264 [(.int (1 : Int32))] X1104 hx hby e0_263_1 rfl rfl ?_
                  have hq1105 : Q0 Z G1 G2 i0 i1 i2 i3 h0 n0 (some (.int (nar .boolean (1 : Int32)))) T1074.heap _ := ⟨rfl, N1104⟩
                  exact own_retN X1104 hx hlk (t := .boolean) hrt (by simp) (hb hby at_264) e1104 hq1105 (by decide) (by decide)
                · refine own_iN 228 X1104 hx (hb hby at_225) rfl ((if0 _ _).trans (teq (by decide : ((0 : Int32) = (0 : Int32)))).2) rfl ?_
                  refine own_ru 231 [(.int (3 : Int32)), (.int (3 : Int32))] X1104 hx hby e0_228_2 rfl rfl ?_
                  refine own_kN 234 X1104 hx (hb hby at_231) rfl (flt (by decide : ¬ ((3 : Int32) < (3 : Int32)))).1 rfl ?_
                  refine own_ru 236 [(.int r_855)] X1104 hx hby e0_234_1 rfl rfl ?_
                  refine own_cS X1104 hx hZ hown (wd82 hw) (wd83 hw) (by decide) (wd84 hw) (wd2 hw) (rm18 l Z a0 hw [] r_855 T1074.heap n0 (by omega) ) e1104  [(.int r_855)] [] 239 0 (hb hby at_236) rfl (by rw [hml]; rfl) rfl rfl (lenOf pd_26 rfl) rfl (by decide) fun v1106 T1106 Lc1106 X1106 hQ1106 => ?_
                  obtain ⟨hvc1106, N1106q, e1106⟩ := hQ1106
                  have N1106 := Fr.app N1104 N1106q
                  rcases hvc1106 with ⟨rfl, hp236⟩ | ⟨rfl, hp236⟩
                  · refine own_iN 242 X1106 hx (hb hby at_239) rfl ((if0 _ _).trans (feq (by decide : ¬ ((1 : Int32) = (0 : Int32)))).1) rfl ?_
                    refine own_ru 243 [(.int (1 : Int32))] X1106 hx hby e0_242_1 rfl rfl ?_
                    refine own_go 247 X1106 hx (hb hby at_243) (by decide) (by decide) ?_
                    refine own_rl 251 #[.val (.int i0), .val (.int i1), .val (.int i2), .val (.int i3), .val (.int (3 : Int32)), .val (.int r_853), .val (.int r_854), .val (.int r_855), .val (.ref b1011), .val (.ref b1018), .val (.ref so_1074), .val (.int (1 : Int32))] [(.int (1 : Int32))] X1106 hx hby e0_247_2 rfl rfl ?_
                    refine own_iY 263 X1106 hx (hb hby at_251) rfl ((if0 _ _).trans (feq (by decide : ¬ ((1 : Int32) = (0 : Int32)))).2) (by decide) (by decide) ?_
                    refine own_ru 264 [(.int (1 : Int32))] X1106 hx hby e0_263_1 rfl rfl ?_
                    have hq1107 : Q0 Z G1 G2 i0 i1 i2 i3 h0 n0 (some (.int (nar .boolean (1 : Int32)))) T1074.heap _ := ⟨rfl, N1106⟩
                    exact own_retN X1106 hx hlk (t := .boolean) hrt (by simp) (hb hby at_264) e1106 hq1107 (by decide) (by decide)
                  · refine own_iY 246 X1106 hx (hb hby at_239) rfl ((if0 _ _).trans (teq (by decide : ((0 : Int32) = (0 : Int32)))).1) (by decide) (by decide) ?_
                    refine own_rl 251 #[.val (.int i0), .val (.int i1), .val (.int i2), .val (.int i3), .val (.int (3 : Int32)), .val (.int r_853), .val (.int r_854), .val (.int r_855), .val (.ref b1011), .val (.ref b1018), .val (.ref so_1074), .val (.int (0 : Int32))] [(.int (0 : Int32))] X1106 hx hby e0_246_3 rfl rfl ?_
                    refine own_iN 254 X1106 hx (hb hby at_251) rfl ((if0 _ _).trans (teq (by decide : ((0 : Int32) = (0 : Int32)))).2) rfl ?_
                    exact absurd ⟨(by rw [own_nch U853_0]; exact own_nup hp208), (by rw [own_nch U854_0]; exact own_nup hp222), (by rw [own_nch U855_0]; exact own_nup hp236)⟩ hneg
          · have blt : @LT.lt Nat _ bta (Array.size T1074.heap) := bf3.lt
            have bls : @LT.lt Nat _ so_1074 (Array.size T1074.heap) := bf0.lt
            refine own_rl 119 #[.val (.int i0), .val (.int i1), .val (.int i2), .val (.int i3), .val (.int (3 : Int32)), .val (.int r_853), .val (.int r_854), .val (.int r_855), .val (.ref b1011), .val (.ref b1018), .val (.ref so_1074), .unset] [(.ref so_1074)] X1074 hx hby e0_115_2 rfl rfl ?_
            refine own_st 122 [] (fun t k => XS.ifnullNo X1074.here hx rfl (hb hby at_119) rfl k) ?_
            refine own_ru 124 [(.ref so_1074)] X1074 hx hby e0_122_1 rfl rfl ?_
            have f1108 := (f1073.keep K1074 all0)
            refine own_cV X1074 hx hZ hown (wd42 hw) (wd32 hw) (notFace_of_selects (args := #[]) (mvT hZ (wd34 hw))) (wd34 hw) (wd33 hw) (by decide) (wd35 hw) (wd8 hw) (rm6d1 l Z a0 hw [] G1 G2 so_1074 bta bkt (6 : Int32) [(.int by0), (.int bz0), (.int by1), (.int bz1), (.int by2), (.int bz2)] T1074.heap n0 (by omega) f1108 A bf0 bf1 bf2 bf3) rfl bf0 [] [] 127 0 (hb hby at_124) rfl (by rw [hml]; rfl) rfl rfl (lenOf pd_20 rfl) rfl (by decide) fun v1109 T1109 Lc1109 X1109 hQ1109 => ?_
            obtain ⟨rfl, N1109q, e1109⟩ := hQ1109
            have N1109 := Fr.app N1074 N1109q
            refine own_ru 129 [(.int (3 : Int32)), (.int (3 : Int32))] X1109 hx hby e0_127_1 rfl rfl ?_
            refine own_kY 134 X1109 hx (hb hby at_129) rfl (teq (by decide : ((3 : Int32) = (3 : Int32)))).1 (by decide) (by decide) ?_
            refine own_ru 137 [(.int (1 : Int32)), (.int (3 : Int32))] X1109 hx hby e0_134_2 rfl rfl ?_
            refine own_kN 140 X1109 hx (hb hby at_137) rfl (flt (by decide : ¬ ((3 : Int32) < (1 : Int32)))).1 rfl ?_
            refine own_ru 143 [(.int (0 : Int32)), (.ref so_1074)] X1109 hx hby e0_140_2 rfl rfl ?_
            refine own_cV X1109 hx hZ hown (wd78 hw) (wd54 hw) (notFace_of_selects (args := #[]) (mvT hZ (wd56 hw))) (wd56 hw) (wd55 hw) (by decide) (wd57 hw) (wd8 hw) (rm11u l Z a0 hw [] G1 G2 so_1074 (0 : Int32) bta bkt (6 : Int32) [(.int by0), (.int bz0), (.int by1), (.int bz1), (.int by2), (.int bz2)] by0 bz0 T1074.heap n0 (by omega) f1108 A bf0 bf1 bf2 bf3 (by decide) (by decide) ⟨by decide, by decide⟩ ⟨by decide, by decide⟩ rfl rfl) e1109 bf0 [(.int (0 : Int32))] [] 146 0 (hb hby at_143) rfl (by rw [hml]; rfl) rfl rfl (lenOf pd_21 rfl) rfl (by decide) fun v1110 T1110 Lc1110 X1110 hQ1110 => ?_
            obtain ⟨rfl, N1110q, e1110⟩ := hQ1110
            have N1110 := Fr.app N1109 N1110q
            refine own_ru 148 [(.int r_853), (.int (own_u by0 bz0))] X1110 hx hby e0_146_1 rfl rfl ?_
            refine own_cS X1110 hx hZ hown (wd79 hw) (wd80 hw) (by decide) (wd81 hw) (wd2 hw) (rm17 l Z a0 hw [] r_853 T1074.heap n0 (by omega) U853_0) e1110  [(.int r_853)] [(.int (own_u by0 bz0))] 151 1 (hb hby at_148) rfl (by rw [hml]; rfl) rfl rfl (lenOf pd_22 rfl) rfl (by decide) fun v1111 T1111 Lc1111 X1111 hQ1111 => ?_
            obtain ⟨rfl, N1111q, e1111⟩ := hQ1111
            have N1111 := Fr.app N1110 N1111q
            refine own_kY 156 X1111 hx (hb hby at_151) rfl (teq (be0.trans (by rw [own_nch U853_0]))).1 (by decide) (by decide) ?_
            refine own_ru 159 [(.int (2 : Int32)), (.int (3 : Int32))] X1111 hx hby e0_156_2 rfl rfl ?_
            refine own_kN 162 X1111 hx (hb hby at_159) rfl (flt (by decide : ¬ ((3 : Int32) < (2 : Int32)))).1 rfl ?_
            refine own_ru 165 [(.int (1 : Int32)), (.ref so_1074)] X1111 hx hby e0_162_2 rfl rfl ?_
            refine own_cV X1111 hx hZ hown (wd78 hw) (wd54 hw) (notFace_of_selects (args := #[]) (mvT hZ (wd56 hw))) (wd56 hw) (wd55 hw) (by decide) (wd57 hw) (wd8 hw) (rm11u l Z a0 hw [] G1 G2 so_1074 (1 : Int32) bta bkt (6 : Int32) [(.int by0), (.int bz0), (.int by1), (.int bz1), (.int by2), (.int bz2)] by1 bz1 T1074.heap n0 (by omega) f1108 A bf0 bf1 bf2 bf3 (by decide) (by decide) ⟨by decide, by decide⟩ ⟨by decide, by decide⟩ rfl rfl) e1111 bf0 [(.int (1 : Int32))] [] 168 0 (hb hby at_165) rfl (by rw [hml]; rfl) rfl rfl (lenOf pd_21 rfl) rfl (by decide) fun v1112 T1112 Lc1112 X1112 hQ1112 => ?_
            obtain ⟨rfl, N1112q, e1112⟩ := hQ1112
            have N1112 := Fr.app N1111 N1112q
            refine own_ru 170 [(.int r_854), (.int (own_u by1 bz1))] X1112 hx hby e0_168_1 rfl rfl ?_
            refine own_cS X1112 hx hZ hown (wd79 hw) (wd80 hw) (by decide) (wd81 hw) (wd2 hw) (rm17 l Z a0 hw [] r_854 T1074.heap n0 (by omega) U854_0) e1112  [(.int r_854)] [(.int (own_u by1 bz1))] 173 1 (hb hby at_170) rfl (by rw [hml]; rfl) rfl rfl (lenOf pd_22 rfl) rfl (by decide) fun v1113 T1113 Lc1113 X1113 hQ1113 => ?_
            obtain ⟨rfl, N1113q, e1113⟩ := hQ1113
            have N1113 := Fr.app N1112 N1113q
            refine own_kY 178 X1113 hx (hb hby at_173) rfl (teq (be1.trans (by rw [own_nch U854_0]))).1 (by decide) (by decide) ?_
            refine own_ru 181 [(.int (3 : Int32)), (.int (3 : Int32))] X1113 hx hby e0_178_2 rfl rfl ?_
            refine own_kN 184 X1113 hx (hb hby at_181) rfl (flt (by decide : ¬ ((3 : Int32) < (3 : Int32)))).1 rfl ?_
            as_aux_lemma =>
              refine own_ru 187 [(.int (2 : Int32)), (.ref so_1074)] X1113 hx hby e0_184_2 rfl rfl ?_
              refine own_cV X1113 hx hZ hown (wd78 hw) (wd54 hw) (notFace_of_selects (args := #[]) (mvT hZ (wd56 hw))) (wd56 hw) (wd55 hw) (by decide) (wd57 hw) (wd8 hw) (rm11u l Z a0 hw [] G1 G2 so_1074 (2 : Int32) bta bkt (6 : Int32) [(.int by0), (.int bz0), (.int by1), (.int bz1), (.int by2), (.int bz2)] by2 bz2 T1074.heap n0 (by omega) f1108 A bf0 bf1 bf2 bf3 (by decide) (by decide) ⟨by decide, by decide⟩ ⟨by decide, by decide⟩ rfl rfl) e1113 bf0 [(.int (2 : Int32))] [] 190 0 (hb hby at_187) rfl (by rw [hml]; rfl) rfl rfl (lenOf pd_21 rfl) rfl (by decide) fun v1114 T1114 Lc1114 X1114 hQ1114 => ?_
              obtain ⟨rfl, N1114q, e1114⟩ := hQ1114
              have N1114 := Fr.app N1113 N1114q
              refine own_ru 192 [(.int r_855), (.int (own_u by2 bz2))] X1114 hx hby e0_190_1 rfl rfl ?_
              refine own_cS X1114 hx hZ hown (wd79 hw) (wd80 hw) (by decide) (wd81 hw) (wd2 hw) (rm17 l Z a0 hw [] r_855 T1074.heap n0 (by omega) U855_0) e1114  [(.int r_855)] [(.int (own_u by2 bz2))] 195 1 (hb hby at_192) rfl (by rw [hml]; rfl) rfl rfl (lenOf pd_22 rfl) rfl (by decide) fun v1115 T1115 Lc1115 X1115 hQ1115 => ?_
              obtain ⟨rfl, N1115q, e1115⟩ := hQ1115
              have N1115 := Fr.app N1114 N1115q
              refine own_kY 200 X1115 hx (hb hby at_195) rfl (teq (be2.trans (by rw [own_nch U855_0]))).1 (by decide) (by decide) ?_
              refine own_ru 203 [(.int (1 : Int32)), (.int (3 : Int32))] X1115 hx hby e0_200_2 rfl rfl ?_
              refine own_kN 206 X1115 hx (hb hby at_203) rfl (flt (by decide : ¬ ((3 : Int32) < (1 : Int32)))).1 rfl ?_
              refine own_ru 208 [(.int r_853)] X1115 hx hby e0_206_1 rfl rfl ?_
              refine own_cS X1115 hx hZ hown (wd82 hw) (wd83 hw) (by decide) (wd84 hw) (wd2 hw) (rm18 l Z a0 hw [] r_853 T1074.heap n0 (by omega) ) e1115  [(.int r_853)] [] 211 0 (hb hby at_208) rfl (by rw [hml]; rfl) rfl rfl (lenOf pd_26 rfl) rfl (by decide) fun v1116 T1116 Lc1116 X1116 hQ1116 => ?_
              obtain ⟨hvc1116, N1116q, e1116⟩ := hQ1116
              have N1116 := Fr.app N1115 N1116q
              rcases hvc1116 with ⟨rfl, hp208⟩ | ⟨rfl, hp208⟩
              · refine own_iY 242 X1116 hx (hb hby at_211) rfl ((if0 _ _).trans (feq (by decide : ¬ ((1 : Int32) = (0 : Int32)))).2) (by decide) (by decide) ?_
                refine own_ru 243 [(.int (1 : Int32))] X1116 hx hby e0_242_1 rfl rfl ?_
                refine own_go 247 X1116 hx (hb hby at_243) (by decide) (by decide) ?_
                refine own_rl 251 #[.val (.int i0), .val (.int i1), .val (.int i2), .val (.int i3), .val (.int (3 : Int32)), .val (.int r_853), .val (.int r_854), .val (.int r_855), .val (.ref b1011), .val (.ref b1018), .val (.ref so_1074), .val (.int (1 : Int32))] [(.int (1 : Int32))] X1116 hx hby e0_247_2 rfl rfl ?_
                refine own_iY 263 X1116 hx (hb hby at_251) rfl ((if0 _ _).trans (feq (by decide : ¬ ((1 : Int32) = (0 : Int32)))).2) (by decide) (by decide) ?_
                refine own_ru 264 [(.int (1 : Int32))] X1116 hx hby e0_263_1 rfl rfl ?_
                have hq1117 : Q0 Z G1 G2 i0 i1 i2 i3 h0 n0 (some (.int (nar .boolean (1 : Int32)))) T1074.heap _ := ⟨rfl, N1116⟩
                exact own_retN X1116 hx hlk (t := .boolean) hrt (by simp) (hb hby at_264) e1116 hq1117 (by decide) (by decide)
              · refine own_iN 214 X1116 hx (hb hby at_211) rfl ((if0 _ _).trans (teq (by decide : ((0 : Int32) = (0 : Int32)))).2) rfl ?_
                refine own_ru 217 [(.int (2 : Int32)), (.int (3 : Int32))] X1116 hx hby e0_214_2 rfl rfl ?_
                refine own_kN 220 X1116 hx (hb hby at_217) rfl (flt (by decide : ¬ ((3 : Int32) < (2 : Int32)))).1 rfl ?_
                refine own_ru 222 [(.int r_854)] X1116 hx hby e0_220_1 rfl rfl ?_
                refine own_cS X1116 hx hZ hown (wd82 hw) (wd83 hw) (by decide) (wd84 hw) (wd2 hw) (rm18 l Z a0 hw [] r_854 T1074.heap n0 (by omega) ) e1116  [(.int r_854)] [] 225 0 (hb hby at_222) rfl (by rw [hml]; rfl) rfl rfl (lenOf pd_26 rfl) rfl (by decide) fun v1118 T1118 Lc1118 X1118 hQ1118 => ?_
                obtain ⟨hvc1118, N1118q, e1118⟩ := hQ1118
                have N1118 := Fr.app N1116 N1118q
                rcases hvc1118 with ⟨rfl, hp222⟩ | ⟨rfl, hp222⟩
                · refine own_iY 242 X1118 hx (hb hby at_225) rfl ((if0 _ _).trans (feq (by decide : ¬ ((1 : Int32) = (0 : Int32)))).2) (by decide) (by decide) ?_
                  refine own_ru 243 [(.int (1 : Int32))] X1118 hx hby e0_242_1 rfl rfl ?_
                  refine own_go 247 X1118 hx (hb hby at_243) (by decide) (by decide) ?_
                  refine own_rl 251 #[.val (.int i0), .val (.int i1), .val (.int i2), .val (.int i3), .val (.int (3 : Int32)), .val (.int r_853), .val (.int r_854), .val (.int r_855), .val (.ref b1011), .val (.ref b1018), .val (.ref so_1074), .val (.int (1 : Int32))] [(.int (1 : Int32))] X1118 hx hby e0_247_2 rfl rfl ?_
                  refine own_iY 263 X1118 hx (hb hby at_251) rfl ((if0 _ _).trans (feq (by decide : ¬ ((1 : Int32) = (0 : Int32)))).2) (by decide) (by decide) ?_
                  refine own_ru 264 [(.int (1 : Int32))] X1118 hx hby e0_263_1 rfl rfl ?_
                  have hq1119 : Q0 Z G1 G2 i0 i1 i2 i3 h0 n0 (some (.int (nar .boolean (1 : Int32)))) T1074.heap _ := ⟨rfl, N1118⟩
                  exact own_retN X1118 hx hlk (t := .boolean) hrt (by simp) (hb hby at_264) e1118 hq1119 (by decide) (by decide)
                · refine own_iN 228 X1118 hx (hb hby at_225) rfl ((if0 _ _).trans (teq (by decide : ((0 : Int32) = (0 : Int32)))).2) rfl ?_
                  refine own_ru 231 [(.int (3 : Int32)), (.int (3 : Int32))] X1118 hx hby e0_228_2 rfl rfl ?_
                  refine own_kN 234 X1118 hx (hb hby at_231) rfl (flt (by decide : ¬ ((3 : Int32) < (3 : Int32)))).1 rfl ?_
                  refine own_ru 236 [(.int r_855)] X1118 hx hby e0_234_1 rfl rfl ?_
                  refine own_cS X1118 hx hZ hown (wd82 hw) (wd83 hw) (by decide) (wd84 hw) (wd2 hw) (rm18 l Z a0 hw [] r_855 T1074.heap n0 (by omega) ) e1118  [(.int r_855)] [] 239 0 (hb hby at_236) rfl (by rw [hml]; rfl) rfl rfl (lenOf pd_26 rfl) rfl (by decide) fun v1120 T1120 Lc1120 X1120 hQ1120 => ?_
                  obtain ⟨hvc1120, N1120q, e1120⟩ := hQ1120
                  have N1120 := Fr.app N1118 N1120q
                  rcases hvc1120 with ⟨rfl, hp236⟩ | ⟨rfl, hp236⟩
                  · refine own_iN 242 X1120 hx (hb hby at_239) rfl ((if0 _ _).trans (feq (by decide : ¬ ((1 : Int32) = (0 : Int32)))).1) rfl ?_
                    refine own_ru 243 [(.int (1 : Int32))] X1120 hx hby e0_242_1 rfl rfl ?_
                    refine own_go 247 X1120 hx (hb hby at_243) (by decide) (by decide) ?_
                    refine own_rl 251 #[.val (.int i0), .val (.int i1), .val (.int i2), .val (.int i3), .val (.int (3 : Int32)), .val (.int r_853), .val (.int r_854), .val (.int r_855), .val (.ref b1011), .val (.ref b1018), .val (.ref so_1074), .val (.int (1 : Int32))] [(.int (1 : Int32))] X1120 hx hby e0_247_2 rfl rfl ?_
                    refine own_iY 263 X1120 hx (hb hby at_251) rfl ((if0 _ _).trans (feq (by decide : ¬ ((1 : Int32) = (0 : Int32)))).2) (by decide) (by decide) ?_
                    refine own_ru 264 [(.int (1 : Int32))] X1120 hx hby e0_263_1 rfl rfl ?_
                    have hq1121 : Q0 Z G1 G2 i0 i1 i2 i3 h0 n0 (some (.int (nar .boolean (1 : Int32)))) T1074.heap _ := ⟨rfl, N1120⟩
                    exact own_retN X1120 hx hlk (t := .boolean) hrt (by simp) (hb hby at_264) e1120 hq1121 (by decide) (by decide)
                  · refine own_iY 246 X1120 hx (hb hby at_239) rfl ((if0 _ _).trans (teq (by decide : ((0 : Int32) = (0 : Int32)))).1) (by decide) (by decide) ?_
                    refine own_rl 251 #[.val (.int i0), .val (.int i1), .val (.int i2), .val (.int i3), .val (.int (3 : Int32)), .val (.int r_853), .val (.int r_854), .val (.int r_855), .val (.ref b1011), .val (.ref b1018), .val (.ref so_1074), .val (.int (0 : Int32))] [(.int (0 : Int32))] X1120 hx hby e0_246_3 rfl rfl ?_
                    refine own_iN 254 X1120 hx (hb hby at_251) rfl ((if0 _ _).trans (teq (by decide : ((0 : Int32) = (0 : Int32)))).2) rfl ?_
                    exact absurd ⟨(by rw [own_nch U853_0]; exact own_nup hp208), (by rw [own_nch U854_0]; exact own_nup hp222), (by rw [own_nch U855_0]; exact own_nup hp236)⟩ hneg
set_option maxRecDepth 65536 in
set_option maxHeartbeats 40000000 in
theorem comes_1 {Post : Tables → Env → Array Value → State → Outcome → State → Prop} (hpost : ∀ tb e args s v u, (limb_1_1.after args s (.returned v) u = true ∧ limb_1_2.after args s (.returned v) u = true ∧ True) → ReturnedEndW s (.returned v) u (Jvm.fieldLocs frame_1_writes args s ++ Jvm.arrayLocs frame_1_arrays args s ++ Jvm.staticLocs frame_1_statics s) 32 1216 → Post tb e args s (.returned v) u) :
    ArmFor flags0 classFile x code maxLocals ret World_1 tables_1 room_1 Calls_1 rest_1 Pre_1 Post := by
  intro l hfl _ _ p e ha hc hk s m args below hf hA hF happ hP
  obtain ⟨hcalls, hrest, hpre⟩ := hP
  obtain ⟨-, -, -, hnamed, -, -, -, hat⟩ := (Spec.applies_iff hf).mp happ
  obtain ⟨hg, hn⟩ := and_e (Cond.before_iff.mp (show (Jvm.Cond.and given_1 narrow_1).before args s = true from hpre))
  obtain ⟨gg1, gg2⟩ := and_e hg
  obtain ⟨gg3, gg4⟩ := and_e gg2
  obtain ⟨gg5, gg6⟩ := and_e gg4
  obtain ⟨gg7, gg8⟩ := and_e gg6
  obtain ⟨w0, w1, w2, w3, rfl⟩ : ∃ w0 w1 w2 w3 : Value, args = #[w0, w1, w2, w3] := by
    have hs : args.size = 4 := by simpa [Cond.value, given_1] using gg1
    obtain ⟨L⟩ := args
    match L, hs with
    | [w0, w1, w2, w3], _ => exact ⟨w0, w1, w2, w3, rfl⟩
  have hw := fun d (hd : d ∈ tables_1) => atoms_spec (ws := Jvm.Cond.code x code maxLocals ret :: tables_1) hat d (List.mem_cons_of_mem _ hd)
  have hfit : Fit s := fun {y c} hc i hi => by
    obtain ⟨ha, rfl⟩ := Array.getElem?_eq_some_iff.mp hc
    have q := List.all_eq_true.mp ((Array.all_eq_true_iff_forall_mem.mp hF) _ (Array.getElem_mem ha)) i (List.mem_range.mpr hi)
    simpa [Array.getElem?_eq_getElem hi] using q
  obtain ⟨i0, ei0⟩ := is_v gg3
  obtain rfl : w0 = (.int i0) := Option.some.inj ei0
  obtain ⟨i1, ei1⟩ := is_v gg5
  obtain rfl : w1 = (.int i1) := Option.some.inj ei1
  obtain ⟨i2, ei2⟩ := is_v gg7
  obtain rfl : w2 = (.int i2) := Option.some.inj ei2
  obtain ⟨i3, ei3⟩ := is_v gg8
  obtain rfl : w3 = (.int i3) := Option.some.inj ei3
  obtain ⟨hsets, hown0⟩ := atoms_of _ (rest_1_c_eq ▸ (show rest_1_c.before _ s = true from hrest))
  have hn0 := hn
  obtain ⟨G1, eG1⟩ := is_v (Cond.before_iff.mp (hsets _ (List.mem_of_getElem? (i := 1) rfl)))
  obtain ⟨G2, eG2, rG2⟩ := isR_v (Cond.before_iff.mp (hsets _ (List.mem_of_getElem? (i := 8) rfl)))
  have M0 : Sta s s.heap "java/lang/String" "COMPACT_STRINGS" "Z" (.int G1) := Sta.start eG1 (Or.inl (hsets _ (List.mem_of_getElem? (i := 0) rfl)))
  have M1 : Sta s s.heap "jdk/internal/util/Preconditions" "SIOOBE_FORMATTER" "Ljava/util/function/BiFunction;" G2 := Sta.start eG2 (Or.inl (hsets _ (List.mem_of_getElem? (i := 7) rfl)))
  have M2 : Sta s s.heap "java/lang/StringUTF16" "$assertionsDisabled" "Z" (.int (1 : Int32)) := Sta.start (own_eqI (Cond.before_iff.mp (hsets _ (List.mem_of_getElem? (i := 12) rfl))) (Term.int_eval _)) (Or.inl (hsets _ (List.mem_of_getElem? (i := 11) rfl)))
  have M3 : Sta s s.heap "java/lang/StringUTF16" "HI_BYTE_SHIFT" "I" (.int (0 : Int32)) := Sta.start (own_eqI (Cond.before_iff.mp (hsets _ (List.mem_of_getElem? (i := 15) rfl))) (Term.int_eval _)) (Or.inl (hsets _ (List.mem_of_getElem? (i := 14) rfl)))
  have M4 : Sta s s.heap "java/lang/StringUTF16" "LO_BYTE_SHIFT" "I" (.int (8 : Int32)) := Sta.start (own_eqI (Cond.before_iff.mp (hsets _ (List.mem_of_getElem? (i := 18) rfl))) (Term.int_eval _)) (Or.inl (hsets _ (List.mem_of_getElem? (i := 17) rfl)))
  have MP0 : ¬ (G1 = (0 : Int32)) := gotF (Cond.eq_ints eG1 (Term.int_eval (0))) (not_v (Cond.before_iff.mp (hsets _ (List.mem_of_getElem? (i := 2) rfl))))
  have MP1 : G2.isRef = true := rG2
  have MP2 : Jvm.Lit.compactW.before #[] s = true := (show Jvm.Lit.compactW.before #[] s = true from (hsets _ (List.mem_of_getElem? (i := 2) rfl)))
  have MP3 : Jvm.Lit.constHeld s "java/lang/String" 7 := (hcalls.1 _ (List.mem_cons_self ..))
  have AM : Amb s G1 G2 := ⟨M0, M1, M2, M3, M4, MP0, MP1, MP2, MP3, trivial⟩
  obtain ⟨n, o, h1, h2, h3, _, L, rfl, ⟨rfl, N⟩, hq⟩ := rm0 l s _ hw tables_1 G1 G2 i0 i1 i2 i3 s.heap s.heap.size (Nat.le_refl _) (Old.start s) AM p e ha hc hk s m _ below hf ((Spec.applies_iff_loose hf).mp happ).1 ⟨rfl, State.Warmed39.refl s, rfl, IB.start⟩ trivial
  refine ⟨n, _, h1, h2, h3, hpost _ _ _ _ _ _ ⟨Cond.after_iff.mpr rfl, Cond.after_iff.mpr (eq_i res_at (Term.int_eval (1)) rfl), trivial⟩ ⟨hq.1, hq.2.1, hq.2.2.1, (hq.2.2.2.sift fun y hy => Or.inr (N y hy)).mono (by decide) (by decide)⟩⟩
theorem main_1_1 : Claimed_1_1 := comes_1 fun _ _ _ _ _ _ h hF => ⟨h.1, hF⟩
theorem main_1_2 : Claimed_1_2 := comes_1 fun _ _ _ _ _ _ h hF => ⟨h.2.1, hF⟩
end Jvm.Pilot.@@N@@
namespace Jvm.Pilot.@@N@@
open Jvm Jvm.ClassFile Sem Op Lib Jvm.Free Jvm.Stand Jvm.Pilot.@@N@@.Jvm.D
/-! MADE BY PROGRAM (witnessworld.py) out of the Statement's table words and the real class files: 20 classes; the members and pool entries that the words name. The judged class is class 1, her method 4. -/
namespace start1
open Jvm.ClassFile
def u (s : String) : CpInfo := .utf8 (stringToUtf16 s)
/-- a pool by its gaps: so many unusable entries, then the entry; so many at the end -/
def gap : Nat → List CpInfo → List CpInfo
  | 0, r => r
  | n + 1, r => .unusable :: gap n r
def poolList (es : List (Nat × CpInfo)) (last : Nat) : List CpInfo := es.foldr (fun e r => gap e.1 (e.2 :: r)) (gap last [])
def pool (es : List (Nat × CpInfo)) (last : Nat) : Array CpInfo := ⟨poolList es last⟩
def fileOf (pool : Array CpInfo) (this : Nat) (attrs : Array Attribute := #[]) (ms : Array MethodInfo := #[]) (fl : Nat := 33) (sup : Nat := 0) (ifs : Array Nat := #[]) (fds : Array FieldInfo := #[]) : ClassFile where
  minorVersion := 0
  majorVersion := 65
  constantPool := pool
  accessFlags := fl
  thisClass := this
  superClass := sup
  interfaces := ifs
  fields := fds
  methods := ms
  attributes := attrs
def plain (name : String) (sup : Option ClassId) : Class where
  name := name
  kind := .ordinary
  loader := none
  accessFlags := 33
  super := sup
  interfaces := #[]
  cf := none
  fields := #[]
  methods := #[]
  instanceTypes := #[]
  staticTypes := #[]
  resolved := #[]
  callSites := []
  init := .initialized
  statics := none
  mirror := none

def pool0 : Array CpInfo := pool [(5, u "<init>"), (0, u "()V"), (1, .class_ 10), (1, u "java/lang/Object")] 113

def k0c0 : Code := { maxStack := 0, maxLocals := 1, code := object_method_1_code, exceptionTable := #[], attributes := #[] }
def k0m0 : Method := { name := "<init>", desc := "()V", sig := { parameters := [], returnType := none }, accessFlags := 1, code := some k0c0 }
/-- java/lang/Object -/
def k0 : Class := { plain "java/lang/Object" none with
  accessFlags := 33
  interfaces := #[]
  cf := some (fileOf pool0 8 #[] #[{ accessFlags := 1, nameIndex := 5, descriptorIndex := 6, attributes := #[] }] 33 0 #[] #[])
  fields := #[]
  methods := #[k0m0]
  instanceTypes := #[]
  staticTypes := #[]
  resolved := Array.replicate 124 none
  statics := none }

def pool1 : Array CpInfo := pool [(2, .class_ 4), (1, u "java/lang/Object"), (0, u "<init>"), (0, u "()V"), (0, .integer 65536), (0, .methodref 9 10), (0, .class_ 11), (0, .nameAndType 12 13), (0, u "com/example/annotree/annotree/tree/AsciiCaseLowerCasePinLaw"), (0, u "mk"), (0, u "(I)C"), (0, .class_ 15), (0, u "java/lang/String"), (0, .methodref 14 17), (0, .nameAndType 5 18), (0, u "([C)V"), (0, .methodref 20 21), (0, .class_ 22), (0, .nameAndType 23 24), (0, u "com/example/annotree/annotree/tree/AsciiCase"), (0, u "lowerCase"), (0, u "(Ljava/lang/String;)Ljava/lang/String;"), (0, .methodref 14 26), (0, .nameAndType 27 28), (0, u "length"), (0, u "()I"), (0, .methodref 14 30), (0, .nameAndType 31 13), (0, u "charAt"), (0, .methodref 9 33), (0, .nameAndType 34 35), (0, u "exp"), (0, u "(C)C"), (0, .methodref 9 37), (0, .nameAndType 38 39), (0, u "upper"), (0, u "(C)Z"), (3, u "law"), (0, u "(IIII)Z")] 4

def k1m0 : Method := { name := "<init>", desc := "()V", sig := { parameters := [], returnType := none }, accessFlags := 1, code := none }
def k1c1 : Code := { maxStack := 2, maxLocals := 1, code := method_2_code, exceptionTable := #[], attributes := #[] }
def k1m1 : Method := { name := "mk", desc := "(I)C", sig := { parameters := [.int], returnType := some .char }, accessFlags := 10, code := some k1c1 }
def k1c2 : Code := { maxStack := 2, maxLocals := 1, code := method_3_code, exceptionTable := #[], attributes := #[] }
def k1m2 : Method := { name := "upper", desc := "(C)Z", sig := { parameters := [.char], returnType := some .boolean }, accessFlags := 10, code := some k1c2 }
def k1c3 : Code := { maxStack := 2, maxLocals := 2, code := method_4_code, exceptionTable := #[], attributes := #[] }
def k1m3 : Method := { name := "exp", desc := "(C)C", sig := { parameters := [.char], returnType := some .char }, accessFlags := 10, code := some k1c3 }
def k1c4 : Code := { maxStack := 4, maxLocals := 12, code := code, exceptionTable := #[], attributes := #[] }
def k1m4 : Method := { name := "law", desc := "(IIII)Z", sig := { parameters := [.int, .int, .int, .int], returnType := some .boolean }, accessFlags := 9, code := some k1c4 }
/-- com/example/annotree/annotree/tree/AsciiCaseLowerCasePinLaw -/
def k1 : Class := { plain "com/example/annotree/annotree/tree/AsciiCaseLowerCasePinLaw" (some 0) with
  accessFlags := 49
  interfaces := #[]
  cf := some (fileOf pool1 9 #[] #[{ accessFlags := 1, nameIndex := 5, descriptorIndex := 6, attributes := #[] }, { accessFlags := 10, nameIndex := 12, descriptorIndex := 13, attributes := #[] }, { accessFlags := 10, nameIndex := 38, descriptorIndex := 39, attributes := #[] }, { accessFlags := 10, nameIndex := 34, descriptorIndex := 35, attributes := #[] }, { accessFlags := 9, nameIndex := 43, descriptorIndex := 44, attributes := #[] }] 49 2 #[] #[])
  fields := #[]
  methods := #[k1m0, k1m1, k1m2, k1m3, k1m4]
  instanceTypes := #[]
  staticTypes := #[]
  resolved := Array.replicate 49 none
  statics := none }

def pool2 : Array CpInfo := pool [(1, .class_ 2), (0, u "java/io/Serializable"), (0, .class_ 4), (0, u "java/lang/Object")] 2

/-- java/io/Serializable -/
def k2 : Class := { plain "java/io/Serializable" (some 0) with
  accessFlags := 1537
  interfaces := #[]
  cf := some (fileOf pool2 1 #[] #[] 1537 3 #[] #[])
  fields := #[]
  methods := #[]
  instanceTypes := #[]
  staticTypes := #[]
  resolved := Array.replicate 7 none
  statics := none }

def pool3 : Array CpInfo := pool [(1, .class_ 2), (0, u "java/lang/Comparable"), (0, .class_ 4), (0, u "java/lang/Object")] 7

/-- java/lang/Comparable -/
def k3 : Class := { plain "java/lang/Comparable" (some 0) with
  accessFlags := 1537
  interfaces := #[]
  cf := some (fileOf pool3 1 #[] #[] 1537 3 #[] #[])
  fields := #[]
  methods := #[]
  instanceTypes := #[]
  staticTypes := #[]
  resolved := Array.replicate 12 none
  statics := none }

def pool4 : Array CpInfo := pool [(2, .class_ 4), (1, u "java/lang/CharSequence"), (42, .class_ 48), (0, u "java/lang/CharSequence$1CodePointIterator"), (10, .class_ 60), (0, u "java/lang/CharSequence$1CharIterator"), (5, .class_ 67), (0, u "java/lang/Object")] 63

/-- java/lang/CharSequence -/
def k4 : Class := { plain "java/lang/CharSequence" (some 0) with
  accessFlags := 1537
  interfaces := #[]
  cf := some (fileOf pool4 2 #[.nestMembers #[47, 59]] #[] 1537 66 #[] #[])
  fields := #[]
  methods := #[]
  instanceTypes := #[]
  staticTypes := #[]
  resolved := Array.replicate 131 none
  statics := none }

def pool5 : Array CpInfo := pool [(1, .class_ 2), (0, u "java/lang/constant/Constable"), (0, .class_ 4), (0, u "java/lang/Object")] 6

/-- java/lang/constant/Constable -/
def k5 : Class := { plain "java/lang/constant/Constable" (some 0) with
  accessFlags := 1537
  interfaces := #[]
  cf := some (fileOf pool5 1 #[] #[] 1537 3 #[] #[])
  fields := #[]
  methods := #[]
  instanceTypes := #[]
  staticTypes := #[]
  resolved := Array.replicate 11 none
  statics := none }

def pool6 : Array CpInfo := pool [(1, .class_ 2), (0, u "java/lang/constant/ConstantDesc"), (0, .class_ 4), (0, u "java/lang/Object")] 32

/-- java/lang/constant/ConstantDesc -/
def k6 : Class := { plain "java/lang/constant/ConstantDesc" (some 0) with
  accessFlags := 1537
  interfaces := #[]
  cf := some (fileOf pool6 1 #[] #[] 1537 3 #[] #[])
  fields := #[]
  methods := #[]
  instanceTypes := #[]
  staticTypes := #[]
  resolved := Array.replicate 37 none
  statics := none }

def pool7 : Array CpInfo := pool [(1, .methodref 2 3), (0, .class_ 4), (0, .nameAndType 5 6), (0, u "java/lang/Object"), (0, u "<init>"), (0, u "()V"), (0, .string 8), (0, u ""), (0, .fieldref 10 11), (0, .class_ 12), (0, .nameAndType 13 14), (0, u "java/lang/String"), (0, u "value"), (0, u "[B"), (0, .fieldref 10 16), (0, .nameAndType 17 18), (0, u "coder"), (0, u "B"), (2, u "hash"), (0, u "I"), (2, u "hashIsZero"), (0, u "Z"), (0, .methodref 10 28), (0, .nameAndType 5 29), (0, u "([CIILjava/lang/Void;)V"), (6, u "checkBoundsOffCount"), (0, u "(III)I"), (0, .fieldref 10 39), (0, .nameAndType 40 26), (0, u "COMPACT_STRINGS"), (1, .class_ 44), (1, u "java/lang/StringUTF16"), (0, u "compress"), (1, .methodref 42 48), (0, .nameAndType 49 50), (0, u "coderFromArrayLen"), (0, u "([BI)B"), (56, .class_ 109), (1, u "java/lang/StringLatin1"), (32, u "()Z"), (34, .methodref 42 178), (0, .nameAndType 45 179), (0, u "([CII)[B"), (119, .methodref 107 300), (0, .nameAndType 301 302), (0, u "toChars"), (0, u "([B)[C"), (0, .methodref 42 300), (30, u "()I"), (0, .methodref 10 336), (0, .nameAndType 17 337), (0, u "()B"), (25, u "([BI)C"), (27, u "(II)V"), (35, u "(I)C"), (64, .methodref 10 493), (0, .nameAndType 494 142), (0, u "isLatin1"), (0, .methodref 107 496), (0, .nameAndType 497 363), (0, u "charAt"), (0, .methodref 42 496), (2, u "checkIndex"), (5, u "length"), (67, .class_ 576), (0, u "java/lang/CharSequence"), (22, u "CASE_INSENSITIVE_ORDER"), (0, u "Ljava/util/Comparator;"), (354, u "toCharArray"), (0, u "()[C"), (53, u "([C)V"), (42, .fieldref 1054 1055), (0, .class_ 1056), (0, .nameAndType 1057 1058), (0, u "jdk/internal/util/Preconditions"), (0, u "SIOOBE_FORMATTER"), (0, u "Ljava/util/function/BiFunction;"), (0, .methodref 1054 1060), (0, .nameAndType 501 1061), (0, u "(IILjava/util/function/BiFunction;)I"), (2, u "(IIILjava/util/function/BiFunction;)I"), (0, .methodref 1054 1066), (0, .nameAndType 1067 1064), (0, u "checkFromIndexSize"), (33, u "serialPersistentFields"), (0, u "[Ljava/io/ObjectStreamField;"), (0, .class_ 1104), (0, u "java/lang/String$CaseInsensitiveComparator"), (1, .class_ 1107), (0, u "java/io/Serializable"), (0, .class_ 1109), (0, u "java/lang/Comparable"), (0, .class_ 1111), (0, u "java/lang/constant/Constable"), (0, .class_ 1113), (0, u "java/lang/constant/ConstantDesc"), (2, u "serialVersionUID"), (0, u "J"), (3, u "REPL"), (0, u "C"), (2, u "LATIN1"), (1, u "UTF16")] 323

def k7m0 : Method := { name := "<init>", desc := "()V", sig := { parameters := [], returnType := none }, accessFlags := 1, code := none }
def k7c1 : Code := { maxStack := 5, maxLocals := 2, code := jdk_42_method_3_code, exceptionTable := #[], attributes := #[] }
def k7m1 : Method := { name := "<init>", desc := "([C)V", sig := { parameters := [(.array .char)], returnType := none }, accessFlags := 1, code := some k7c1 }
def k7c2 : Code := { maxStack := 2, maxLocals := 1, code := jdk_42_method_54_code, exceptionTable := #[], attributes := #[] }
def k7m2 : Method := { name := "length", desc := "()I", sig := { parameters := [], returnType := some .int }, accessFlags := 1, code := some k7c2 }
def k7c3 : Code := { maxStack := 2, maxLocals := 2, code := jdk_42_method_56_code, exceptionTable := #[], attributes := #[] }
def k7m3 : Method := { name := "charAt", desc := "(I)C", sig := { parameters := [.int], returnType := some .char }, accessFlags := 1, code := some k7c3 }
def k7c4 : Code := { maxStack := 1, maxLocals := 1, code := jdk_42_method_129_code, exceptionTable := #[], attributes := #[] }
def k7m4 : Method := { name := "toCharArray", desc := "()[C", sig := { parameters := [], returnType := some (.array .char) }, accessFlags := 1, code := some k7c4 }
def k7c5 : Code := { maxStack := 4, maxLocals := 6, code := jdk_42_method_149_code, exceptionTable := #[], attributes := #[] }
def k7m5 : Method := { name := "<init>", desc := "([CIILjava/lang/Void;)V", sig := { parameters := [(.array .char), .int, .int, (.object "java/lang/Void")], returnType := none }, accessFlags := 2, code := some k7c5 }
def k7c6 : Code := { maxStack := 1, maxLocals := 1, code := jdk_42_method_152_code, exceptionTable := #[], attributes := #[] }
def k7m6 : Method := { name := "coder", desc := "()B", sig := { parameters := [], returnType := some .byte }, accessFlags := 0, code := some k7c6 }
def k7c7 : Code := { maxStack := 1, maxLocals := 1, code := jdk_42_method_154_code, exceptionTable := #[], attributes := #[] }
def k7m7 : Method := { name := "isLatin1", desc := "()Z", sig := { parameters := [], returnType := some .boolean }, accessFlags := 0, code := some k7c7 }
def k7c8 : Code := { maxStack := 3, maxLocals := 2, code := jdk_42_method_155_code, exceptionTable := #[], attributes := #[] }
def k7m8 : Method := { name := "checkIndex", desc := "(II)V", sig := { parameters := [.int, .int], returnType := none }, accessFlags := 8, code := some k7c8 }
def k7c9 : Code := { maxStack := 4, maxLocals := 3, code := jdk_42_method_157_code, exceptionTable := #[], attributes := #[] }
def k7m9 : Method := { name := "checkBoundsOffCount", desc := "(III)I", sig := { parameters := [.int, .int, .int], returnType := some .int }, accessFlags := 8, code := some k7c9 }
/-- java/lang/String -/
def k7 : Class := { plain "java/lang/String" (some 0) with
  accessFlags := 49
  interfaces := #[2, 3, 4, 5, 6]
  cf := some (fileOf pool7 10 #[.nestMembers #[1103]] #[{ accessFlags := 1, nameIndex := 5, descriptorIndex := 6, attributes := #[] }, { accessFlags := 1, nameIndex := 5, descriptorIndex := 1010, attributes := #[] }, { accessFlags := 1, nameIndex := 507, descriptorIndex := 334, attributes := #[] }, { accessFlags := 1, nameIndex := 497, descriptorIndex := 427, attributes := #[] }, { accessFlags := 1, nameIndex := 955, descriptorIndex := 956, attributes := #[] }, { accessFlags := 2, nameIndex := 5, descriptorIndex := 29, attributes := #[] }, { accessFlags := 0, nameIndex := 17, descriptorIndex := 337, attributes := #[] }, { accessFlags := 0, nameIndex := 494, descriptorIndex := 142, attributes := #[] }, { accessFlags := 8, nameIndex := 501, descriptorIndex := 391, attributes := #[] }, { accessFlags := 8, nameIndex := 36, descriptorIndex := 37, attributes := #[] }] 49 2 #[1106, 1108, 575, 1110, 1112] #[{ accessFlags := 18, nameIndex := 13, descriptorIndex := 14, attributes := #[] }, { accessFlags := 18, nameIndex := 17, descriptorIndex := 18, attributes := #[] }, { accessFlags := 2, nameIndex := 21, descriptorIndex := 22, attributes := #[] }, { accessFlags := 2, nameIndex := 25, descriptorIndex := 26, attributes := #[] }, { accessFlags := 26, nameIndex := 1116, descriptorIndex := 1117, attributes := #[] }, { accessFlags := 24, nameIndex := 40, descriptorIndex := 26, attributes := #[] }, { accessFlags := 26, nameIndex := 1101, descriptorIndex := 1102, attributes := #[] }, { accessFlags := 26, nameIndex := 1121, descriptorIndex := 1122, attributes := #[] }, { accessFlags := 25, nameIndex := 599, descriptorIndex := 600, attributes := #[] }, { accessFlags := 24, nameIndex := 1125, descriptorIndex := 18, attributes := #[] }, { accessFlags := 24, nameIndex := 1127, descriptorIndex := 18, attributes := #[] }])
  fields := #[{ name := "value", type := (.array .byte), accessFlags := 18, slot := 0, constantValue := 0 }, { name := "coder", type := .byte, accessFlags := 18, slot := 1, constantValue := 0 }, { name := "hash", type := .int, accessFlags := 2, slot := 2, constantValue := 0 }, { name := "hashIsZero", type := .boolean, accessFlags := 2, slot := 3, constantValue := 0 }, { name := "serialVersionUID", type := .long, accessFlags := 26, slot := 0, constantValue := 0 }, { name := "COMPACT_STRINGS", type := .boolean, accessFlags := 24, slot := 1, constantValue := 0 }, { name := "serialPersistentFields", type := (.array (.object "java/io/ObjectStreamField")), accessFlags := 26, slot := 2, constantValue := 0 }, { name := "REPL", type := .char, accessFlags := 26, slot := 3, constantValue := 0 }, { name := "CASE_INSENSITIVE_ORDER", type := (.object "java/util/Comparator"), accessFlags := 25, slot := 4, constantValue := 0 }, { name := "LATIN1", type := .byte, accessFlags := 24, slot := 5, constantValue := 0 }, { name := "UTF16", type := .byte, accessFlags := 24, slot := 6, constantValue := 0 }]
  methods := #[k7m0, k7m1, k7m2, k7m3, k7m4, k7m5, k7m6, k7m7, k7m8, k7m9]
  instanceTypes := #[(.array .byte), .byte, .int, .boolean]
  staticTypes := #[.long, .boolean, (.array (.object "java/io/ObjectStreamField")), .char, (.object "java/util/Comparator"), .byte, .byte]
  resolved := Array.replicate 1451 none
  statics := some 0 }

def pool8 : Array CpInfo := pool [(2, .class_ 4), (1, u "java/lang/Object"), (0, u "<init>"), (0, u "()V"), (0, .methodref 8 9), (0, .class_ 10), (0, .nameAndType 11 12), (0, u "java/lang/String"), (0, u "length"), (0, u "()I"), (0, .methodref 8 14), (0, .nameAndType 15 16), (0, u "charAt"), (0, u "(I)C"), (0, .methodref 18 19), (0, .class_ 20), (0, .nameAndType 21 22), (0, u "com/example/annotree/annotree/tree/AsciiCase"), (0, u "lowerCase"), (0, u "(C)C"), (0, .methodref 8 24), (0, .nameAndType 25 26), (0, u "toCharArray"), (0, u "()[C"), (0, .methodref 8 28), (0, .nameAndType 5 29), (0, u "([C)V"), (2, u "(Ljava/lang/String;)Ljava/lang/String;")] 7

def k8m0 : Method := { name := "<init>", desc := "()V", sig := { parameters := [], returnType := none }, accessFlags := 2, code := none }
def k8c1 : Code := { maxStack := 3, maxLocals := 4, code := prog_14_method_2_code, exceptionTable := #[], attributes := #[] }
def k8m1 : Method := { name := "lowerCase", desc := "(Ljava/lang/String;)Ljava/lang/String;", sig := { parameters := [(.object "java/lang/String")], returnType := some (.object "java/lang/String") }, accessFlags := 8, code := some k8c1 }
def k8c2 : Code := { maxStack := 2, maxLocals := 1, code := prog_14_method_3_code, exceptionTable := #[], attributes := #[] }
def k8m2 : Method := { name := "lowerCase", desc := "(C)C", sig := { parameters := [.char], returnType := some .char }, accessFlags := 8, code := some k8c2 }
/-- com/example/annotree/annotree/tree/AsciiCase -/
def k8 : Class := { plain "com/example/annotree/annotree/tree/AsciiCase" (some 0) with
  accessFlags := 48
  interfaces := #[]
  cf := some (fileOf pool8 18 #[] #[{ accessFlags := 2, nameIndex := 5, descriptorIndex := 6, attributes := #[] }, { accessFlags := 8, nameIndex := 21, descriptorIndex := 32, attributes := #[] }, { accessFlags := 8, nameIndex := 21, descriptorIndex := 22, attributes := #[] }] 48 2 #[] #[])
  fields := #[]
  methods := #[k8m0, k8m1, k8m2]
  instanceTypes := #[]
  staticTypes := #[]
  resolved := Array.replicate 40 none
  statics := none }

def pool9 : Array CpInfo := pool [(3, .class_ 4), (0, u "java/lang/String"), (1, .class_ 8), (1, u "java/lang/Object"), (0, u "<init>"), (0, u "()V"), (0, .methodref 12 13), (0, .class_ 14), (0, .nameAndType 15 16), (0, u "java/lang/StringUTF16"), (0, u "newBytesLength"), (0, u "(I)I"), (3, .integer 1073741823), (23, .fieldref 12 45), (0, .nameAndType 46 47), (0, u "$assertionsDisabled"), (0, u "Z"), (0, .methodref 12 49), (0, .nameAndType 50 51), (0, u "length"), (0, u "([B)I"), (7, .fieldref 12 60), (0, .nameAndType 61 62), (0, u "HI_BYTE_SHIFT"), (0, u "I"), (0, .fieldref 12 64), (0, .nameAndType 65 62), (0, u "LO_BYTE_SHIFT"), (1, .methodref 12 68), (0, .nameAndType 69 70), (0, u "checkIndex"), (0, u "(I[B)V"), (0, .methodref 12 72), (0, .nameAndType 73 74), (0, u "getChar"), (0, u "([BI)C"), (24, u "(II[B)V"), (3, .methodref 12 104), (0, .nameAndType 105 106), (0, u "getChars"), (0, u "([BII[CI)V"), (0, .methodref 12 108), (0, .nameAndType 109 110), (0, u "newBytesFor"), (0, u "(I)[B"), (0, .methodref 12 112), (0, .nameAndType 113 114), (0, u "putChar"), (0, u "([BII)V"), (0, .methodref 12 116), (0, .nameAndType 117 118), (0, u "compress"), (0, u "([CI[BII)I"), (0, .methodref 12 120), (0, .nameAndType 121 122), (0, u "toBytes"), (0, u "([CII)[B"), (50, .methodref 12 174), (0, .nameAndType 175 99), (0, u "checkBoundsOffCount"), (85, u "coderFromArrayLen"), (0, u "([BI)B"), (18, u "(III)I"), (60, u "toChars"), (26, .class_ 371), (1, u "java/lang/StringUTF16$LinesSpliterator"), (20, u "charAt"), (21, .methodref 3 415), (0, .nameAndType 69 416), (0, u "(II)V"), (2, .methodref 3 420), (0, .nameAndType 175 281), (9, u "MAX_LENGTH"), (23, u "([B)[C"), (172, .class_ 628), (0, u "java/lang/StringUTF16$CodePointsSpliterator"), (0, .class_ 630), (0, u "java/lang/StringUTF16$CharsSpliterator")] 4

def k9m0 : Method := { name := "<init>", desc := "()V", sig := { parameters := [], returnType := none }, accessFlags := 0, code := none }
def k9c1 : Code := { maxStack := 1, maxLocals := 1, code := jdk_52_method_2_code, exceptionTable := #[], attributes := #[] }
def k9m1 : Method := { name := "newBytesFor", desc := "(I)[B", sig := { parameters := [.int], returnType := some (.array .byte) }, accessFlags := 9, code := some k9c1 }
def k9c2 : Code := { maxStack := 4, maxLocals := 1, code := jdk_52_method_3_code, exceptionTable := #[], attributes := #[] }
def k9m2 : Method := { name := "newBytesLength", desc := "(I)I", sig := { parameters := [.int], returnType := some .int }, accessFlags := 9, code := some k9c2 }
def k9c3 : Code := { maxStack := 4, maxLocals := 3, code := jdk_52_method_4_code, exceptionTable := #[], attributes := #[] }
def k9m3 : Method := { name := "putChar", desc := "([BII)V", sig := { parameters := [(.array .byte), .int, .int], returnType := none }, accessFlags := 8, code := some k9c3 }
def k9c4 : Code := { maxStack := 3, maxLocals := 2, code := jdk_52_method_5_code, exceptionTable := #[], attributes := #[] }
def k9m4 : Method := { name := "getChar", desc := "([BI)C", sig := { parameters := [(.array .byte), .int], returnType := some .char }, accessFlags := 8, code := some k9c4 }
def k9c5 : Code := { maxStack := 2, maxLocals := 1, code := jdk_52_method_6_code, exceptionTable := #[], attributes := #[] }
def k9m5 : Method := { name := "length", desc := "([B)I", sig := { parameters := [(.array .byte)], returnType := some .int }, accessFlags := 9, code := some k9c5 }
def k9c6 : Code := { maxStack := 5, maxLocals := 2, code := jdk_52_method_13_code, exceptionTable := #[], attributes := #[] }
def k9m6 : Method := { name := "toChars", desc := "([B)[C", sig := { parameters := [(.array .byte)], returnType := some (.array .char) }, accessFlags := 9, code := some k9c6 }
def k9c7 : Code := { maxStack := 4, maxLocals := 5, code := jdk_52_method_14_code, exceptionTable := #[], attributes := #[] }
def k9m7 : Method := { name := "toBytes", desc := "([CII)[B", sig := { parameters := [(.array .char), .int, .int], returnType := some (.array .byte) }, accessFlags := 9, code := some k9c7 }
def k9c8 : Code := { maxStack := 2, maxLocals := 2, code := jdk_52_method_15_code, exceptionTable := #[], attributes := #[] }
def k9m8 : Method := { name := "coderFromArrayLen", desc := "([BI)B", sig := { parameters := [(.array .byte), .int], returnType := some .byte }, accessFlags := 8, code := some k9c8 }
def k9c9 : Code := { maxStack := 5, maxLocals := 6, code := jdk_52_method_16_code, exceptionTable := #[], attributes := #[] }
def k9m9 : Method := { name := "compress", desc := "([CII)[B", sig := { parameters := [(.array .char), .int, .int], returnType := some (.array .byte) }, accessFlags := 9, code := some k9c9 }
def k9c10 : Code := { maxStack := 3, maxLocals := 7, code := jdk_52_method_21_code, exceptionTable := #[], attributes := #[] }
def k9m10 : Method := { name := "compress", desc := "([CI[BII)I", sig := { parameters := [(.array .char), .int, (.array .byte), .int, .int], returnType := some .int }, accessFlags := 9, code := some k9c10 }
def k9c11 : Code := { maxStack := 4, maxLocals := 6, code := jdk_52_method_26_code, exceptionTable := #[], attributes := #[] }
def k9m11 : Method := { name := "getChars", desc := "([BII[CI)V", sig := { parameters := [(.array .byte), .int, .int, (.array .char), .int], returnType := none }, accessFlags := 9, code := some k9c11 }
def k9c12 : Code := { maxStack := 2, maxLocals := 2, code := jdk_52_method_83_code, exceptionTable := #[], attributes := #[] }
def k9m12 : Method := { name := "charAt", desc := "([BI)C", sig := { parameters := [(.array .byte), .int], returnType := some .char }, accessFlags := 9, code := some k9c12 }
def k9c13 : Code := { maxStack := 2, maxLocals := 2, code := jdk_52_method_91_code, exceptionTable := #[], attributes := #[] }
def k9m13 : Method := { name := "checkIndex", desc := "(I[B)V", sig := { parameters := [.int, (.array .byte)], returnType := none }, accessFlags := 9, code := some k9c13 }
def k9c14 : Code := { maxStack := 3, maxLocals := 3, code := jdk_52_method_94_code, exceptionTable := #[], attributes := #[] }
def k9m14 : Method := { name := "checkBoundsOffCount", desc := "(II[B)V", sig := { parameters := [.int, .int, (.array .byte)], returnType := none }, accessFlags := 9, code := some k9c14 }
/-- java/lang/StringUTF16 -/
def k9 : Class := { plain "java/lang/StringUTF16" (some 0) with
  accessFlags := 48
  interfaces := #[]
  cf := some (fileOf pool9 12 #[.nestMembers #[627, 629, 369]] #[{ accessFlags := 0, nameIndex := 9, descriptorIndex := 10, attributes := #[] }, { accessFlags := 9, nameIndex := 109, descriptorIndex := 110, attributes := #[] }, { accessFlags := 9, nameIndex := 15, descriptorIndex := 16, attributes := #[] }, { accessFlags := 8, nameIndex := 113, descriptorIndex := 114, attributes := #[] }, { accessFlags := 8, nameIndex := 73, descriptorIndex := 74, attributes := #[] }, { accessFlags := 9, nameIndex := 50, descriptorIndex := 51, attributes := #[] }, { accessFlags := 9, nameIndex := 342, descriptorIndex := 454, attributes := #[] }, { accessFlags := 9, nameIndex := 121, descriptorIndex := 122, attributes := #[] }, { accessFlags := 8, nameIndex := 261, descriptorIndex := 262, attributes := #[] }, { accessFlags := 9, nameIndex := 117, descriptorIndex := 122, attributes := #[] }, { accessFlags := 9, nameIndex := 117, descriptorIndex := 118, attributes := #[] }, { accessFlags := 9, nameIndex := 105, descriptorIndex := 106, attributes := #[] }, { accessFlags := 9, nameIndex := 392, descriptorIndex := 74, attributes := #[] }, { accessFlags := 9, nameIndex := 69, descriptorIndex := 70, attributes := #[] }, { accessFlags := 9, nameIndex := 175, descriptorIndex := 99, attributes := #[] }] 48 6 #[] #[{ accessFlags := 26, nameIndex := 61, descriptorIndex := 62, attributes := #[] }, { accessFlags := 26, nameIndex := 65, descriptorIndex := 62, attributes := #[] }, { accessFlags := 24, nameIndex := 430, descriptorIndex := 62, attributes := #[] }, { accessFlags := 4120, nameIndex := 46, descriptorIndex := 47, attributes := #[] }])
  fields := #[{ name := "HI_BYTE_SHIFT", type := .int, accessFlags := 26, slot := 0, constantValue := 0 }, { name := "LO_BYTE_SHIFT", type := .int, accessFlags := 26, slot := 1, constantValue := 0 }, { name := "MAX_LENGTH", type := .int, accessFlags := 24, slot := 2, constantValue := 0 }, { name := "$assertionsDisabled", type := .boolean, accessFlags := 4120, slot := 3, constantValue := 0 }]
  methods := #[k9m0, k9m1, k9m2, k9m3, k9m4, k9m5, k9m6, k9m7, k9m8, k9m9, k9m10, k9m11, k9m12, k9m13, k9m14]
  instanceTypes := #[]
  staticTypes := #[.int, .int, .int, .boolean]
  resolved := Array.replicate 635 none
  statics := some 1 }

def pool10 : Array CpInfo := pool [(1, .class_ 2), (0, u "java/lang/String"), (1, .class_ 6), (1, u "java/lang/Object"), (0, u "<init>"), (0, u "()V"), (0, .methodref 1 10), (0, .nameAndType 11 12), (0, u "checkIndex"), (0, u "(II)V"), (0, .methodref 14 15), (0, .class_ 16), (0, .nameAndType 17 18), (0, u "java/lang/StringLatin1"), (0, u "inflate"), (0, u "([BI[CII)V"), (34, u "([BI)C"), (67, u "$assertionsDisabled"), (0, u "Z"), (69, u "toChars"), (28, .class_ 223), (1, u "java/lang/StringLatin1$LinesSpliterator"), (28, u "charAt"), (15, u "([B)[C"), (121, .class_ 391), (0, u "java/lang/StringLatin1$CharsSpliterator")] 3

def k10m0 : Method := { name := "<init>", desc := "()V", sig := { parameters := [], returnType := none }, accessFlags := 0, code := none }
def k10c1 : Code := { maxStack := 2, maxLocals := 2, code := jdk_43_method_2_code, exceptionTable := #[], attributes := #[] }
def k10m1 : Method := { name := "charAt", desc := "([BI)C", sig := { parameters := [(.array .byte), .int], returnType := some .char }, accessFlags := 9, code := some k10c1 }
def k10c2 : Code := { maxStack := 5, maxLocals := 2, code := jdk_43_method_9_code, exceptionTable := #[], attributes := #[] }
def k10m2 : Method := { name := "toChars", desc := "([B)[C", sig := { parameters := [(.array .byte)], returnType := some (.array .char) }, accessFlags := 9, code := some k10c2 }
def k10c3 : Code := { maxStack := 4, maxLocals := 6, code := jdk_43_method_49_code, exceptionTable := #[], attributes := #[] }
def k10m3 : Method := { name := "inflate", desc := "([BI[CII)V", sig := { parameters := [(.array .byte), .int, (.array .char), .int, .int], returnType := none }, accessFlags := 9, code := some k10c3 }
/-- java/lang/StringLatin1 -/
def k10 : Class := { plain "java/lang/StringLatin1" (some 0) with
  accessFlags := 48
  interfaces := #[]
  cf := some (fileOf pool10 14 #[.nestMembers #[390, 221]] #[{ accessFlags := 0, nameIndex := 7, descriptorIndex := 8, attributes := #[] }, { accessFlags := 9, nameIndex := 252, descriptorIndex := 53, attributes := #[] }, { accessFlags := 9, nameIndex := 192, descriptorIndex := 268, attributes := #[] }, { accessFlags := 9, nameIndex := 17, descriptorIndex := 18, attributes := #[] }] 48 4 #[] #[{ accessFlags := 4120, nameIndex := 121, descriptorIndex := 122, attributes := #[] }])
  fields := #[{ name := "$assertionsDisabled", type := .boolean, accessFlags := 4120, slot := 0, constantValue := 0 }]
  methods := #[k10m0, k10m1, k10m2, k10m3]
  instanceTypes := #[]
  staticTypes := #[.boolean]
  resolved := Array.replicate 395 none
  statics := none }

def pool11 : Array CpInfo := pool [(2, .class_ 4), (1, u "java/lang/Object"), (0, u "<init>"), (0, u "()V"), (17, .class_ 26), (1, u "jdk/internal/util/Preconditions"), (6, u "checkIndex"), (15, u "checkFromIndexSize"), (5, .class_ 56), (0, u "jdk/internal/util/Preconditions$4"), (57, .class_ 115), (0, u "jdk/internal/util/Preconditions$1"), (7, u "SIOOBE_FORMATTER"), (0, u "Ljava/util/function/BiFunction;"), (0, .class_ 126), (0, u "jdk/internal/util/Preconditions$2"), (3, u "AIOOBE_FORMATTER"), (0, .class_ 132), (0, u "jdk/internal/util/Preconditions$3"), (3, u "IOOBE_FORMATTER"), (41, u "(IILjava/util/function/BiFunction;)I"), (4, u "(IIILjava/util/function/BiFunction;)I")] 10

def k11m0 : Method := { name := "<init>", desc := "()V", sig := { parameters := [], returnType := none }, accessFlags := 1, code := none }
def k11c1 : Code := { maxStack := 3, maxLocals := 3, code := jdk_41_method_11_code, exceptionTable := #[], attributes := #[] }
def k11m1 : Method := { name := "checkIndex", desc := "(IILjava/util/function/BiFunction;)I", sig := { parameters := [.int, .int, (.object "java/util/function/BiFunction")], returnType := some .int }, accessFlags := 9, code := some k11c1 }
def k11c2 : Code := { maxStack := 4, maxLocals := 4, code := jdk_41_method_13_code, exceptionTable := #[], attributes := #[] }
def k11m2 : Method := { name := "checkFromIndexSize", desc := "(IIILjava/util/function/BiFunction;)I", sig := { parameters := [.int, .int, .int, (.object "java/util/function/BiFunction")], returnType := some .int }, accessFlags := 9, code := some k11c2 }
/-- jdk/internal/util/Preconditions -/
def k11 : Class := { plain "jdk/internal/util/Preconditions" (some 0) with
  accessFlags := 33
  interfaces := #[]
  cf := some (fileOf pool11 24 #[.nestMembers #[55, 131, 125, 114]] #[{ accessFlags := 1, nameIndex := 5, descriptorIndex := 6, attributes := #[] }, { accessFlags := 9, nameIndex := 33, descriptorIndex := 178, attributes := #[] }, { accessFlags := 9, nameIndex := 49, descriptorIndex := 183, attributes := #[] }] 33 2 #[] #[{ accessFlags := 25, nameIndex := 123, descriptorIndex := 124, attributes := #[] }, { accessFlags := 25, nameIndex := 130, descriptorIndex := 124, attributes := #[] }, { accessFlags := 25, nameIndex := 136, descriptorIndex := 124, attributes := #[] }])
  fields := #[{ name := "SIOOBE_FORMATTER", type := (.object "java/util/function/BiFunction"), accessFlags := 25, slot := 0, constantValue := 0 }, { name := "AIOOBE_FORMATTER", type := (.object "java/util/function/BiFunction"), accessFlags := 25, slot := 1, constantValue := 0 }, { name := "IOOBE_FORMATTER", type := (.object "java/util/function/BiFunction"), accessFlags := 25, slot := 2, constantValue := 0 }]
  methods := #[k11m0, k11m1, k11m2]
  instanceTypes := #[]
  staticTypes := #[(.object "java/util/function/BiFunction"), (.object "java/util/function/BiFunction"), (.object "java/util/function/BiFunction")]
  resolved := Array.replicate 194 none
  statics := some 2 }

def pool12 : Array CpInfo := pool [(9, u "<init>"), (6, .class_ 18), (1, u "java/lang/Object"), (0, u "()V"), (1, .class_ 23), (1, u "jdk/internal/util/ArraysSupport"), (0, u "LOG2_ARRAY_LONG_INDEX_SCALE"), (0, u "I"), (2, u "U"), (0, u "Ljdk/internal/misc/Unsafe;"), (8, u "BIG_ENDIAN"), (0, u "Z"), (8, u "LOG2_BYTE_BIT_SIZE"), (4, u "LOG2_ARRAY_INT_INDEX_SCALE"), (54, u "JLA"), (0, u "Ljdk/internal/access/JavaLangAccess;"), (11, u "LOG2_ARRAY_BOOLEAN_INDEX_SCALE"), (9, u "LOG2_ARRAY_BYTE_INDEX_SCALE"), (5, u "LOG2_ARRAY_CHAR_INDEX_SCALE"), (5, u "LOG2_ARRAY_SHORT_INDEX_SCALE"), (18, u "LOG2_ARRAY_FLOAT_INDEX_SCALE"), (24, u "LOG2_ARRAY_DOUBLE_INDEX_SCALE"), (89, u "T_BOOLEAN"), (2, u "T_CHAR"), (1, u "T_FLOAT"), (1, u "T_DOUBLE"), (1, u "T_BYTE"), (1, u "T_SHORT"), (1, u "T_INT"), (1, u "T_LONG"), (1, u "SOFT_MAX_ARRAY_LENGTH")] 83

def k12m0 : Method := { name := "<init>", desc := "()V", sig := { parameters := [], returnType := none }, accessFlags := 2, code := none }
/-- jdk/internal/util/ArraysSupport -/
def k12 : Class := { plain "jdk/internal/util/ArraysSupport" (some 0) with
  accessFlags := 33
  interfaces := #[]
  cf := some (fileOf pool12 21 #[] #[{ accessFlags := 2, nameIndex := 9, descriptorIndex := 19, attributes := #[] }] 33 16 #[] #[{ accessFlags := 24, nameIndex := 28, descriptorIndex := 29, attributes := #[] }, { accessFlags := 26, nameIndex := 38, descriptorIndex := 39, attributes := #[] }, { accessFlags := 25, nameIndex := 121, descriptorIndex := 25, attributes := #[] }, { accessFlags := 25, nameIndex := 131, descriptorIndex := 25, attributes := #[] }, { accessFlags := 25, nameIndex := 137, descriptorIndex := 25, attributes := #[] }, { accessFlags := 25, nameIndex := 143, descriptorIndex := 25, attributes := #[] }, { accessFlags := 25, nameIndex := 53, descriptorIndex := 25, attributes := #[] }, { accessFlags := 25, nameIndex := 24, descriptorIndex := 25, attributes := #[] }, { accessFlags := 25, nameIndex := 162, descriptorIndex := 25, attributes := #[] }, { accessFlags := 25, nameIndex := 187, descriptorIndex := 25, attributes := #[] }, { accessFlags := 26, nameIndex := 48, descriptorIndex := 25, attributes := #[] }, { accessFlags := 25, nameIndex := 277, descriptorIndex := 25, attributes := #[] }, { accessFlags := 25, nameIndex := 280, descriptorIndex := 25, attributes := #[] }, { accessFlags := 25, nameIndex := 282, descriptorIndex := 25, attributes := #[] }, { accessFlags := 25, nameIndex := 284, descriptorIndex := 25, attributes := #[] }, { accessFlags := 25, nameIndex := 286, descriptorIndex := 25, attributes := #[] }, { accessFlags := 25, nameIndex := 288, descriptorIndex := 25, attributes := #[] }, { accessFlags := 25, nameIndex := 290, descriptorIndex := 25, attributes := #[] }, { accessFlags := 25, nameIndex := 292, descriptorIndex := 25, attributes := #[] }, { accessFlags := 26, nameIndex := 108, descriptorIndex := 109, attributes := #[] }, { accessFlags := 25, nameIndex := 294, descriptorIndex := 25, attributes := #[] }])
  fields := #[{ name := "U", type := (.object "jdk/internal/misc/Unsafe"), accessFlags := 24, slot := 0, constantValue := 0 }, { name := "BIG_ENDIAN", type := .boolean, accessFlags := 26, slot := 1, constantValue := 0 }, { name := "LOG2_ARRAY_BOOLEAN_INDEX_SCALE", type := .int, accessFlags := 25, slot := 2, constantValue := 0 }, { name := "LOG2_ARRAY_BYTE_INDEX_SCALE", type := .int, accessFlags := 25, slot := 3, constantValue := 0 }, { name := "LOG2_ARRAY_CHAR_INDEX_SCALE", type := .int, accessFlags := 25, slot := 4, constantValue := 0 }, { name := "LOG2_ARRAY_SHORT_INDEX_SCALE", type := .int, accessFlags := 25, slot := 5, constantValue := 0 }, { name := "LOG2_ARRAY_INT_INDEX_SCALE", type := .int, accessFlags := 25, slot := 6, constantValue := 0 }, { name := "LOG2_ARRAY_LONG_INDEX_SCALE", type := .int, accessFlags := 25, slot := 7, constantValue := 0 }, { name := "LOG2_ARRAY_FLOAT_INDEX_SCALE", type := .int, accessFlags := 25, slot := 8, constantValue := 0 }, { name := "LOG2_ARRAY_DOUBLE_INDEX_SCALE", type := .int, accessFlags := 25, slot := 9, constantValue := 0 }, { name := "LOG2_BYTE_BIT_SIZE", type := .int, accessFlags := 26, slot := 10, constantValue := 0 }, { name := "T_BOOLEAN", type := .int, accessFlags := 25, slot := 11, constantValue := 0 }, { name := "T_CHAR", type := .int, accessFlags := 25, slot := 12, constantValue := 0 }, { name := "T_FLOAT", type := .int, accessFlags := 25, slot := 13, constantValue := 0 }, { name := "T_DOUBLE", type := .int, accessFlags := 25, slot := 14, constantValue := 0 }, { name := "T_BYTE", type := .int, accessFlags := 25, slot := 15, constantValue := 0 }, { name := "T_SHORT", type := .int, accessFlags := 25, slot := 16, constantValue := 0 }, { name := "T_INT", type := .int, accessFlags := 25, slot := 17, constantValue := 0 }, { name := "T_LONG", type := .int, accessFlags := 25, slot := 18, constantValue := 0 }, { name := "JLA", type := (.object "jdk/internal/access/JavaLangAccess"), accessFlags := 26, slot := 19, constantValue := 0 }, { name := "SOFT_MAX_ARRAY_LENGTH", type := .int, accessFlags := 25, slot := 20, constantValue := 0 }]
  methods := #[k12m0]
  instanceTypes := #[]
  staticTypes := #[(.object "jdk/internal/misc/Unsafe"), .boolean, .int, .int, .int, .int, .int, .int, .int, .int, .int, .int, .int, .int, .int, .int, .int, .int, .int, (.object "jdk/internal/access/JavaLangAccess"), .int]
  resolved := Array.replicate 378 none
  statics := none }

def pool13 : Array CpInfo := pool [(1, u "java/lang/Cloneable"), (0, .class_ 1), (0, u "java/lang/Object"), (0, .class_ 3)] 3

/-- java/lang/Cloneable -/
def k13 : Class := { plain "java/lang/Cloneable" (some 0) with
  accessFlags := 1537
  interfaces := #[]
  cf := some (fileOf pool13 2 #[] #[] 1537 4 #[] #[])
  fields := #[]
  methods := #[]
  instanceTypes := #[]
  staticTypes := #[]
  resolved := Array.replicate 8 none
  statics := none }

/-- the primitive byte -/
def k14 : Class := { plain "byte" none with kind := .primitive 'B', accessFlags := 0x411 }
/-- [B -/
def k15 : Class := { plain "[B" (some 0) with kind := .array 14 .byte, interfaces := #[13, 2], accessFlags := 1041 }

/-- the primitive char -/
def k16 : Class := { plain "char" none with kind := .primitive 'C', accessFlags := 0x411 }
/-- [C -/
def k17 : Class := { plain "[C" (some 0) with kind := .array 16 .char, interfaces := #[13, 2], accessFlags := 1041 }

/-- the primitive int -/
def k18 : Class := { plain "int" none with kind := .primitive 'I', accessFlags := 0x411 }
/-- [I -/
def k19 : Class := { plain "[I" (some 0) with kind := .array 18 .int, interfaces := #[13, 2], accessFlags := 1041 }

def heap : Heap := #[{ cls := 7, slots := #[.long 0, .int 1, .null, .int 0, .null, .int 0, .int 0], vm := .statics 7 },
  { cls := 9, slots := #[.int 0, .int 8, .int 0, .int 1], vm := .statics 9 },
  { cls := 11, slots := #[.null, .null, .null], vm := .statics 11 }]
def classes : Array Class := #[k0, k1, k2, k3, k4, k5, k6, k7, k8, k9, k10, k11, k12, k13, k14, k15, k16, k17, k18, k19]
def interned : List (Array UInt16 × Addr) := []
def slotsUsed : Nat := 14
def theMethod : MethodId := ⟨1, 4⟩
def args0 : Array Value := #[.int 2, .int 65, .int 300, .int 7]
def aboutOver (below : List Frame) : State where
  vm := { classes := classes, interned := interned.toArray }
  heap := heap
  slotsUsed := slotsUsed
  threads := #[{ frames := .invoking theMethod args0 :: below }]
def below0 : List Frame := [.native { method := ⟨0, 0⟩, args := #[] }]
def about1 : State := aboutOver below0
def p0 : Program := .bare "" "" ""
def e0 : Env := launch0.env 0 0 0
theorem w_frames : about1.frames = Frame.invoking theMethod args0 :: below0 := rfl
set_option maxRecDepth 65536 in
theorem w_args : argsFit about1.vm theMethod args0 = true := by decide +kernel
set_option maxRecDepth 65536 in
theorem w_heap : heapFits about1 = true := by decide +kernel
set_option maxRecDepth 65536 in
theorem w_runnable : about1.curStatus? = some .runnable := by decide +kernel
set_option maxRecDepth 65536 in
theorem w_alone : about1.alone = true := by decide +kernel
set_option maxRecDepth 65536 in
theorem w_named : about1.methodNamed? x = some theMethod := by decide +kernel
set_option maxRecDepth 65536 in
theorem w_hears : about1.hears theMethod below0 = true := by decide +kernel
set_option maxRecDepth 65536 in
theorem w_ripe : about1.ripe theMethod args0 below0 = true := by decide +kernel
theorem w_running : about1.status = .running := rfl
set_option maxRecDepth 65536 in
theorem w_room : about1.hasRoom e0.platform room_1 = true :=
  launch0.hasRoom_least _ room_1 (by decide +kernel) (by decide +kernel) (by decide +kernel) (by decide +kernel) (by decide +kernel) (by decide +kernel)
theorem allAtoms_all (ts : List Jvm.Cond) (a : Array Jvm.Value) (st : Jvm.State) : (allAtoms ts).before a st = ts.all (fun c => c.before a st) := by
  induction ts with
  | nil => rfl
  | cons c t ih =>
    show (Jvm.Cond.and c (allAtoms t)).before a st = _
    rw [Jvm.Cond.before_and, ih, List.all_cons]
def words1 : List Jvm.Cond := Jvm.Cond.code x code maxLocals ret :: tables_1
/-- a 'code' word, met by the world's own term for the bytes: nothing is compared byte by byte -/
theorem code_word {y : MethodName} {bytes : ByteArray} {mx : Nat} {rt : Option FieldType} {a : Array Value} {s : State} {m : MethodId} {meth : Method} {c : Code} (h1 : s.methodNamed? y = some m) (h2 : s.vm.method? m = some meth) (h3 : meth.code = some c) (h4 : c.code = bytes)
    (h5 : (c.maxLocals == mx && c.exceptionTable.isEmpty && decide (c.maxStack ≤ mostOperands) && decide (meth.sig.returnType = rt) && !meth.locks && decide (parseMethodDescriptor y.desc = some meth.sig)) = true) : (Jvm.Cond.code y bytes mx rt).before a s = true := by
  simp only [Bool.and_eq_true, beq_iff_eq, Bool.not_eq_true', decide_eq_true_eq] at h5
  obtain ⟨⟨⟨⟨⟨g1, g2⟩, g3⟩, g4⟩, g5⟩, g6⟩ := h5
  simp [Cond.before, Cond.holds, Cond.value, h1, h2, h3, h4, g1, g2, g3, g4, g5, g6]
def isCode : Jvm.Cond → Bool
  | .code _ _ _ _ => true
  | _ => false
theorem all_split {L : List Jvm.Cond} {P : Jvm.Cond → Bool} (h1 : L.all (fun c => isCode c || P c) = true) (h2 : ∀ c ∈ L.filter isCode, P c = true) : L.all P = true := by
  refine List.all_eq_true.mpr fun c hc => ?_
  have h := List.all_eq_true.mp h1 c hc
  rcases Bool.eq_false_or_eq_true (isCode c) with hi | hi
  · exact h2 c (List.mem_filter.mpr ⟨hc, hi⟩)
  · simpa [hi] using h
set_option maxRecDepth 65536 in
theorem w_c0 : (Jvm.Cond.code x code maxLocals ret).before args0 about1 = true := code_word (m := ⟨1, 4⟩) (meth := k1m4) (c := k1c4) (by decide +kernel) rfl rfl rfl (by decide +kernel)
set_option maxRecDepth 65536 in
theorem w_c1 : (Jvm.Cond.code ({ cls := "com/example/annotree/annotree/tree/AsciiCaseLowerCasePinLaw", name := "mk", desc := "(I)C" } : Jvm.MethodName) method_2_code (1 : Nat) (Option.some Jvm.ClassFile.FieldType.char)).before args0 about1 = true := code_word (m := ⟨1, 1⟩) (meth := k1m1) (c := k1c1) (by decide +kernel) rfl rfl rfl (by decide +kernel)
set_option maxRecDepth 65536 in
theorem w_c2 : (Jvm.Cond.code ({ cls := "java/lang/String", name := "<init>", desc := "([C)V" } : Jvm.MethodName) jdk_42_method_3_code (2 : Nat) (Option.none : Option Jvm.ClassFile.FieldType)).before args0 about1 = true := code_word (m := ⟨7, 1⟩) (meth := k7m1) (c := k7c1) (by decide +kernel) rfl rfl rfl (by decide +kernel)
set_option maxRecDepth 65536 in
theorem w_c3 : (Jvm.Cond.code ({ cls := "java/lang/String", name := "<init>", desc := "([CIILjava/lang/Void;)V" } : Jvm.MethodName) jdk_42_method_149_code (6 : Nat) (Option.none : Option Jvm.ClassFile.FieldType)).before args0 about1 = true := code_word (m := ⟨7, 5⟩) (meth := k7m5) (c := k7c5) (by decide +kernel) rfl rfl rfl (by decide +kernel)
set_option maxRecDepth 65536 in
theorem w_c4 : (Jvm.Cond.code ({ cls := "java/lang/Object", name := "<init>", desc := "()V" } : Jvm.MethodName) object_method_1_code (1 : Nat) (Option.none : Option Jvm.ClassFile.FieldType)).before args0 about1 = true := code_word (m := ⟨0, 0⟩) (meth := k0m0) (c := k0c0) (by decide +kernel) rfl rfl rfl (by decide +kernel)
set_option maxRecDepth 65536 in
theorem w_c5 : (Jvm.Cond.code ({ cls := "com/example/annotree/annotree/tree/AsciiCase", name := "lowerCase", desc := "(Ljava/lang/String;)Ljava/lang/String;" } : Jvm.MethodName) prog_14_method_2_code (4 : Nat) (Option.some (Jvm.ClassFile.FieldType.object "java/lang/String"))).before args0 about1 = true := code_word (m := ⟨8, 1⟩) (meth := k8m1) (c := k8c1) (by decide +kernel) rfl rfl rfl (by decide +kernel)
set_option maxRecDepth 65536 in
theorem w_c6 : (Jvm.Cond.code ({ cls := "java/lang/String", name := "length", desc := "()I" } : Jvm.MethodName) jdk_42_method_54_code (1 : Nat) (Option.some Jvm.ClassFile.FieldType.int)).before args0 about1 = true := code_word (m := ⟨7, 2⟩) (meth := k7m2) (c := k7c2) (by decide +kernel) rfl rfl rfl (by decide +kernel)
set_option maxRecDepth 65536 in
theorem w_c7 : (Jvm.Cond.code ({ cls := "java/lang/String", name := "coder", desc := "()B" } : Jvm.MethodName) jdk_42_method_152_code (1 : Nat) (Option.some Jvm.ClassFile.FieldType.byte)).before args0 about1 = true := code_word (m := ⟨7, 6⟩) (meth := k7m6) (c := k7c6) (by decide +kernel) rfl rfl rfl (by decide +kernel)
set_option maxRecDepth 65536 in
theorem w_c8 : (Jvm.Cond.code ({ cls := "java/lang/StringUTF16", name := "compress", desc := "([CII)[B" } : Jvm.MethodName) jdk_52_method_16_code (6 : Nat) (Option.some (Jvm.ClassFile.FieldType.array Jvm.ClassFile.FieldType.byte))).before args0 about1 = true := code_word (m := ⟨9, 9⟩) (meth := k9m9) (c := k9c9) (by decide +kernel) rfl rfl rfl (by decide +kernel)
set_option maxRecDepth 65536 in
theorem w_c9 : (Jvm.Cond.code ({ cls := "java/lang/StringUTF16", name := "compress", desc := "([CI[BII)I" } : Jvm.MethodName) jdk_52_method_21_code (7 : Nat) (Option.some Jvm.ClassFile.FieldType.int)).before args0 about1 = true := code_word (m := ⟨9, 10⟩) (meth := k9m10) (c := k9c10) (by decide +kernel) rfl rfl rfl (by decide +kernel)
set_option maxRecDepth 65536 in
theorem w_c10 : (Jvm.Cond.code ({ cls := "java/lang/StringUTF16", name := "coderFromArrayLen", desc := "([BI)B" } : Jvm.MethodName) jdk_52_method_15_code (2 : Nat) (Option.some Jvm.ClassFile.FieldType.byte)).before args0 about1 = true := code_word (m := ⟨9, 8⟩) (meth := k9m8) (c := k9c8) (by decide +kernel) rfl rfl rfl (by decide +kernel)
set_option maxRecDepth 65536 in
theorem w_c11 : (Jvm.Cond.code ({ cls := "java/lang/String", name := "charAt", desc := "(I)C" } : Jvm.MethodName) jdk_42_method_56_code (2 : Nat) (Option.some Jvm.ClassFile.FieldType.char)).before args0 about1 = true := code_word (m := ⟨7, 3⟩) (meth := k7m3) (c := k7c3) (by decide +kernel) rfl rfl rfl (by decide +kernel)
set_option maxRecDepth 65536 in
theorem w_c12 : (Jvm.Cond.code ({ cls := "java/lang/String", name := "isLatin1", desc := "()Z" } : Jvm.MethodName) jdk_42_method_154_code (1 : Nat) (Option.some Jvm.ClassFile.FieldType.boolean)).before args0 about1 = true := code_word (m := ⟨7, 7⟩) (meth := k7m7) (c := k7c7) (by decide +kernel) rfl rfl rfl (by decide +kernel)
set_option maxRecDepth 65536 in
theorem w_c13 : (Jvm.Cond.code ({ cls := "java/lang/StringLatin1", name := "charAt", desc := "([BI)C" } : Jvm.MethodName) jdk_43_method_2_code (2 : Nat) (Option.some Jvm.ClassFile.FieldType.char)).before args0 about1 = true := code_word (m := ⟨10, 1⟩) (meth := k10m1) (c := k10c1) (by decide +kernel) rfl rfl rfl (by decide +kernel)
set_option maxRecDepth 65536 in
theorem w_c14 : (Jvm.Cond.code ({ cls := "java/lang/String", name := "checkIndex", desc := "(II)V" } : Jvm.MethodName) jdk_42_method_155_code (2 : Nat) (Option.none : Option Jvm.ClassFile.FieldType)).before args0 about1 = true := code_word (m := ⟨7, 8⟩) (meth := k7m8) (c := k7c8) (by decide +kernel) rfl rfl rfl (by decide +kernel)
set_option maxRecDepth 65536 in
theorem w_c15 : (Jvm.Cond.code ({ cls := "jdk/internal/util/Preconditions", name := "checkIndex", desc := "(IILjava/util/function/BiFunction;)I" } : Jvm.MethodName) jdk_41_method_11_code (3 : Nat) (Option.some Jvm.ClassFile.FieldType.int)).before args0 about1 = true := code_word (m := ⟨11, 1⟩) (meth := k11m1) (c := k11c1) (by decide +kernel) rfl rfl rfl (by decide +kernel)
set_option maxRecDepth 65536 in
theorem w_c16 : (Jvm.Cond.code ({ cls := "com/example/annotree/annotree/tree/AsciiCase", name := "lowerCase", desc := "(C)C" } : Jvm.MethodName) prog_14_method_3_code (1 : Nat) (Option.some Jvm.ClassFile.FieldType.char)).before args0 about1 = true := code_word (m := ⟨8, 2⟩) (meth := k8m2) (c := k8c2) (by decide +kernel) rfl rfl rfl (by decide +kernel)
set_option maxRecDepth 65536 in
theorem w_c17 : (Jvm.Cond.code ({ cls := "com/example/annotree/annotree/tree/AsciiCaseLowerCasePinLaw", name := "exp", desc := "(C)C" } : Jvm.MethodName) method_4_code (2 : Nat) (Option.some Jvm.ClassFile.FieldType.char)).before args0 about1 = true := code_word (m := ⟨1, 3⟩) (meth := k1m3) (c := k1c3) (by decide +kernel) rfl rfl rfl (by decide +kernel)
set_option maxRecDepth 65536 in
theorem w_c18 : (Jvm.Cond.code ({ cls := "com/example/annotree/annotree/tree/AsciiCaseLowerCasePinLaw", name := "upper", desc := "(C)Z" } : Jvm.MethodName) method_3_code (1 : Nat) (Option.some Jvm.ClassFile.FieldType.boolean)).before args0 about1 = true := code_word (m := ⟨1, 2⟩) (meth := k1m2) (c := k1c2) (by decide +kernel) rfl rfl rfl (by decide +kernel)
set_option maxRecDepth 65536 in
theorem w_c19 : (Jvm.Cond.code ({ cls := "java/lang/String", name := "toCharArray", desc := "()[C" } : Jvm.MethodName) jdk_42_method_129_code (1 : Nat) (Option.some (Jvm.ClassFile.FieldType.array Jvm.ClassFile.FieldType.char))).before args0 about1 = true := code_word (m := ⟨7, 4⟩) (meth := k7m4) (c := k7c4) (by decide +kernel) rfl rfl rfl (by decide +kernel)
set_option maxRecDepth 65536 in
theorem w_c20 : (Jvm.Cond.code ({ cls := "java/lang/StringLatin1", name := "toChars", desc := "([B)[C" } : Jvm.MethodName) jdk_43_method_9_code (2 : Nat) (Option.some (Jvm.ClassFile.FieldType.array Jvm.ClassFile.FieldType.char))).before args0 about1 = true := code_word (m := ⟨10, 2⟩) (meth := k10m2) (c := k10c2) (by decide +kernel) rfl rfl rfl (by decide +kernel)
set_option maxRecDepth 65536 in
theorem w_c21 : (Jvm.Cond.code ({ cls := "java/lang/StringLatin1", name := "inflate", desc := "([BI[CII)V" } : Jvm.MethodName) jdk_43_method_49_code (6 : Nat) (Option.none : Option Jvm.ClassFile.FieldType)).before args0 about1 = true := code_word (m := ⟨10, 3⟩) (meth := k10m3) (c := k10c3) (by decide +kernel) rfl rfl rfl (by decide +kernel)
set_option maxRecDepth 65536 in
theorem w_c22 : (Jvm.Cond.code ({ cls := "java/lang/StringUTF16", name := "toBytes", desc := "([CII)[B" } : Jvm.MethodName) jdk_52_method_14_code (5 : Nat) (Option.some (Jvm.ClassFile.FieldType.array Jvm.ClassFile.FieldType.byte))).before args0 about1 = true := code_word (m := ⟨9, 7⟩) (meth := k9m7) (c := k9c7) (by decide +kernel) rfl rfl rfl (by decide +kernel)
set_option maxRecDepth 65536 in
theorem w_c23 : (Jvm.Cond.code ({ cls := "java/lang/StringUTF16", name := "newBytesFor", desc := "(I)[B" } : Jvm.MethodName) jdk_52_method_2_code (1 : Nat) (Option.some (Jvm.ClassFile.FieldType.array Jvm.ClassFile.FieldType.byte))).before args0 about1 = true := code_word (m := ⟨9, 1⟩) (meth := k9m1) (c := k9c1) (by decide +kernel) rfl rfl rfl (by decide +kernel)
set_option maxRecDepth 65536 in
theorem w_c24 : (Jvm.Cond.code ({ cls := "java/lang/StringUTF16", name := "newBytesLength", desc := "(I)I" } : Jvm.MethodName) jdk_52_method_3_code (1 : Nat) (Option.some Jvm.ClassFile.FieldType.int)).before args0 about1 = true := code_word (m := ⟨9, 2⟩) (meth := k9m2) (c := k9c2) (by decide +kernel) rfl rfl rfl (by decide +kernel)
set_option maxRecDepth 65536 in
theorem w_c25 : (Jvm.Cond.code ({ cls := "java/lang/StringUTF16", name := "putChar", desc := "([BII)V" } : Jvm.MethodName) jdk_52_method_4_code (3 : Nat) (Option.none : Option Jvm.ClassFile.FieldType)).before args0 about1 = true := code_word (m := ⟨9, 3⟩) (meth := k9m3) (c := k9c3) (by decide +kernel) rfl rfl rfl (by decide +kernel)
set_option maxRecDepth 65536 in
theorem w_c26 : (Jvm.Cond.code ({ cls := "java/lang/StringUTF16", name := "getChar", desc := "([BI)C" } : Jvm.MethodName) jdk_52_method_5_code (2 : Nat) (Option.some Jvm.ClassFile.FieldType.char)).before args0 about1 = true := code_word (m := ⟨9, 4⟩) (meth := k9m4) (c := k9c4) (by decide +kernel) rfl rfl rfl (by decide +kernel)
set_option maxRecDepth 65536 in
theorem w_c27 : (Jvm.Cond.code ({ cls := "java/lang/StringUTF16", name := "charAt", desc := "([BI)C" } : Jvm.MethodName) jdk_52_method_83_code (2 : Nat) (Option.some Jvm.ClassFile.FieldType.char)).before args0 about1 = true := code_word (m := ⟨9, 12⟩) (meth := k9m12) (c := k9c12) (by decide +kernel) rfl rfl rfl (by decide +kernel)
set_option maxRecDepth 65536 in
theorem w_c28 : (Jvm.Cond.code ({ cls := "java/lang/StringUTF16", name := "checkIndex", desc := "(I[B)V" } : Jvm.MethodName) jdk_52_method_91_code (2 : Nat) (Option.none : Option Jvm.ClassFile.FieldType)).before args0 about1 = true := code_word (m := ⟨9, 13⟩) (meth := k9m13) (c := k9c13) (by decide +kernel) rfl rfl rfl (by decide +kernel)
set_option maxRecDepth 65536 in
theorem w_c29 : (Jvm.Cond.code ({ cls := "java/lang/StringUTF16", name := "length", desc := "([B)I" } : Jvm.MethodName) jdk_52_method_6_code (1 : Nat) (Option.some Jvm.ClassFile.FieldType.int)).before args0 about1 = true := code_word (m := ⟨9, 5⟩) (meth := k9m5) (c := k9c5) (by decide +kernel) rfl rfl rfl (by decide +kernel)
set_option maxRecDepth 65536 in
theorem w_c30 : (Jvm.Cond.code ({ cls := "java/lang/StringUTF16", name := "toChars", desc := "([B)[C" } : Jvm.MethodName) jdk_52_method_13_code (2 : Nat) (Option.some (Jvm.ClassFile.FieldType.array Jvm.ClassFile.FieldType.char))).before args0 about1 = true := code_word (m := ⟨9, 6⟩) (meth := k9m6) (c := k9c6) (by decide +kernel) rfl rfl rfl (by decide +kernel)
set_option maxRecDepth 65536 in
theorem w_c31 : (Jvm.Cond.code ({ cls := "java/lang/StringUTF16", name := "getChars", desc := "([BII[CI)V" } : Jvm.MethodName) jdk_52_method_26_code (6 : Nat) (Option.none : Option Jvm.ClassFile.FieldType)).before args0 about1 = true := code_word (m := ⟨9, 11⟩) (meth := k9m11) (c := k9c11) (by decide +kernel) rfl rfl rfl (by decide +kernel)
set_option maxRecDepth 65536 in
theorem w_c32 : (Jvm.Cond.code ({ cls := "java/lang/StringUTF16", name := "checkBoundsOffCount", desc := "(II[B)V" } : Jvm.MethodName) jdk_52_method_94_code (3 : Nat) (Option.none : Option Jvm.ClassFile.FieldType)).before args0 about1 = true := code_word (m := ⟨9, 14⟩) (meth := k9m14) (c := k9c14) (by decide +kernel) rfl rfl rfl (by decide +kernel)
set_option maxRecDepth 65536 in
theorem w_c33 : (Jvm.Cond.code ({ cls := "java/lang/String", name := "checkBoundsOffCount", desc := "(III)I" } : Jvm.MethodName) jdk_42_method_157_code (3 : Nat) (Option.some Jvm.ClassFile.FieldType.int)).before args0 about1 = true := code_word (m := ⟨7, 9⟩) (meth := k7m9) (c := k7c9) (by decide +kernel) rfl rfl rfl (by decide +kernel)
set_option maxRecDepth 65536 in
theorem w_c34 : (Jvm.Cond.code ({ cls := "jdk/internal/util/Preconditions", name := "checkFromIndexSize", desc := "(IIILjava/util/function/BiFunction;)I" } : Jvm.MethodName) jdk_41_method_13_code (4 : Nat) (Option.some Jvm.ClassFile.FieldType.int)).before args0 about1 = true := code_word (m := ⟨11, 2⟩) (meth := k11m2) (c := k11c2) (by decide +kernel) rfl rfl rfl (by decide +kernel)
def codes1 : List Jvm.Cond := [Jvm.Cond.code x code maxLocals ret, Jvm.Cond.code ({ cls := "com/example/annotree/annotree/tree/AsciiCaseLowerCasePinLaw", name := "mk", desc := "(I)C" } : Jvm.MethodName) method_2_code (1 : Nat) (Option.some Jvm.ClassFile.FieldType.char), Jvm.Cond.code ({ cls := "java/lang/String", name := "<init>", desc := "([C)V" } : Jvm.MethodName) jdk_42_method_3_code (2 : Nat) (Option.none : Option Jvm.ClassFile.FieldType), Jvm.Cond.code ({ cls := "java/lang/String", name := "<init>", desc := "([CIILjava/lang/Void;)V" } : Jvm.MethodName) jdk_42_method_149_code (6 : Nat) (Option.none : Option Jvm.ClassFile.FieldType), Jvm.Cond.code ({ cls := "java/lang/Object", name := "<init>", desc := "()V" } : Jvm.MethodName) object_method_1_code (1 : Nat) (Option.none : Option Jvm.ClassFile.FieldType), Jvm.Cond.code ({ cls := "com/example/annotree/annotree/tree/AsciiCase", name := "lowerCase", desc := "(Ljava/lang/String;)Ljava/lang/String;" } : Jvm.MethodName) prog_14_method_2_code (4 : Nat) (Option.some (Jvm.ClassFile.FieldType.object "java/lang/String")), Jvm.Cond.code ({ cls := "java/lang/String", name := "length", desc := "()I" } : Jvm.MethodName) jdk_42_method_54_code (1 : Nat) (Option.some Jvm.ClassFile.FieldType.int), Jvm.Cond.code ({ cls := "java/lang/String", name := "coder", desc := "()B" } : Jvm.MethodName) jdk_42_method_152_code (1 : Nat) (Option.some Jvm.ClassFile.FieldType.byte), Jvm.Cond.code ({ cls := "java/lang/StringUTF16", name := "compress", desc := "([CII)[B" } : Jvm.MethodName) jdk_52_method_16_code (6 : Nat) (Option.some (Jvm.ClassFile.FieldType.array Jvm.ClassFile.FieldType.byte)), Jvm.Cond.code ({ cls := "java/lang/StringUTF16", name := "compress", desc := "([CI[BII)I" } : Jvm.MethodName) jdk_52_method_21_code (7 : Nat) (Option.some Jvm.ClassFile.FieldType.int), Jvm.Cond.code ({ cls := "java/lang/StringUTF16", name := "coderFromArrayLen", desc := "([BI)B" } : Jvm.MethodName) jdk_52_method_15_code (2 : Nat) (Option.some Jvm.ClassFile.FieldType.byte), Jvm.Cond.code ({ cls := "java/lang/String", name := "charAt", desc := "(I)C" } : Jvm.MethodName) jdk_42_method_56_code (2 : Nat) (Option.some Jvm.ClassFile.FieldType.char), Jvm.Cond.code ({ cls := "java/lang/String", name := "isLatin1", desc := "()Z" } : Jvm.MethodName) jdk_42_method_154_code (1 : Nat) (Option.some Jvm.ClassFile.FieldType.boolean), Jvm.Cond.code ({ cls := "java/lang/StringLatin1", name := "charAt", desc := "([BI)C" } : Jvm.MethodName) jdk_43_method_2_code (2 : Nat) (Option.some Jvm.ClassFile.FieldType.char), Jvm.Cond.code ({ cls := "java/lang/String", name := "checkIndex", desc := "(II)V" } : Jvm.MethodName) jdk_42_method_155_code (2 : Nat) (Option.none : Option Jvm.ClassFile.FieldType), Jvm.Cond.code ({ cls := "jdk/internal/util/Preconditions", name := "checkIndex", desc := "(IILjava/util/function/BiFunction;)I" } : Jvm.MethodName) jdk_41_method_11_code (3 : Nat) (Option.some Jvm.ClassFile.FieldType.int), Jvm.Cond.code ({ cls := "com/example/annotree/annotree/tree/AsciiCase", name := "lowerCase", desc := "(C)C" } : Jvm.MethodName) prog_14_method_3_code (1 : Nat) (Option.some Jvm.ClassFile.FieldType.char), Jvm.Cond.code ({ cls := "com/example/annotree/annotree/tree/AsciiCaseLowerCasePinLaw", name := "exp", desc := "(C)C" } : Jvm.MethodName) method_4_code (2 : Nat) (Option.some Jvm.ClassFile.FieldType.char), Jvm.Cond.code ({ cls := "com/example/annotree/annotree/tree/AsciiCaseLowerCasePinLaw", name := "upper", desc := "(C)Z" } : Jvm.MethodName) method_3_code (1 : Nat) (Option.some Jvm.ClassFile.FieldType.boolean), Jvm.Cond.code ({ cls := "java/lang/String", name := "toCharArray", desc := "()[C" } : Jvm.MethodName) jdk_42_method_129_code (1 : Nat) (Option.some (Jvm.ClassFile.FieldType.array Jvm.ClassFile.FieldType.char)), Jvm.Cond.code ({ cls := "java/lang/StringLatin1", name := "toChars", desc := "([B)[C" } : Jvm.MethodName) jdk_43_method_9_code (2 : Nat) (Option.some (Jvm.ClassFile.FieldType.array Jvm.ClassFile.FieldType.char)), Jvm.Cond.code ({ cls := "java/lang/StringLatin1", name := "inflate", desc := "([BI[CII)V" } : Jvm.MethodName) jdk_43_method_49_code (6 : Nat) (Option.none : Option Jvm.ClassFile.FieldType), Jvm.Cond.code ({ cls := "java/lang/StringUTF16", name := "toBytes", desc := "([CII)[B" } : Jvm.MethodName) jdk_52_method_14_code (5 : Nat) (Option.some (Jvm.ClassFile.FieldType.array Jvm.ClassFile.FieldType.byte)), Jvm.Cond.code ({ cls := "java/lang/StringUTF16", name := "newBytesFor", desc := "(I)[B" } : Jvm.MethodName) jdk_52_method_2_code (1 : Nat) (Option.some (Jvm.ClassFile.FieldType.array Jvm.ClassFile.FieldType.byte)), Jvm.Cond.code ({ cls := "java/lang/StringUTF16", name := "newBytesLength", desc := "(I)I" } : Jvm.MethodName) jdk_52_method_3_code (1 : Nat) (Option.some Jvm.ClassFile.FieldType.int), Jvm.Cond.code ({ cls := "java/lang/StringUTF16", name := "putChar", desc := "([BII)V" } : Jvm.MethodName) jdk_52_method_4_code (3 : Nat) (Option.none : Option Jvm.ClassFile.FieldType), Jvm.Cond.code ({ cls := "java/lang/StringUTF16", name := "getChar", desc := "([BI)C" } : Jvm.MethodName) jdk_52_method_5_code (2 : Nat) (Option.some Jvm.ClassFile.FieldType.char), Jvm.Cond.code ({ cls := "java/lang/StringUTF16", name := "charAt", desc := "([BI)C" } : Jvm.MethodName) jdk_52_method_83_code (2 : Nat) (Option.some Jvm.ClassFile.FieldType.char), Jvm.Cond.code ({ cls := "java/lang/StringUTF16", name := "checkIndex", desc := "(I[B)V" } : Jvm.MethodName) jdk_52_method_91_code (2 : Nat) (Option.none : Option Jvm.ClassFile.FieldType), Jvm.Cond.code ({ cls := "java/lang/StringUTF16", name := "length", desc := "([B)I" } : Jvm.MethodName) jdk_52_method_6_code (1 : Nat) (Option.some Jvm.ClassFile.FieldType.int), Jvm.Cond.code ({ cls := "java/lang/StringUTF16", name := "toChars", desc := "([B)[C" } : Jvm.MethodName) jdk_52_method_13_code (2 : Nat) (Option.some (Jvm.ClassFile.FieldType.array Jvm.ClassFile.FieldType.char)), Jvm.Cond.code ({ cls := "java/lang/StringUTF16", name := "getChars", desc := "([BII[CI)V" } : Jvm.MethodName) jdk_52_method_26_code (6 : Nat) (Option.none : Option Jvm.ClassFile.FieldType), Jvm.Cond.code ({ cls := "java/lang/StringUTF16", name := "checkBoundsOffCount", desc := "(II[B)V" } : Jvm.MethodName) jdk_52_method_94_code (3 : Nat) (Option.none : Option Jvm.ClassFile.FieldType), Jvm.Cond.code ({ cls := "java/lang/String", name := "checkBoundsOffCount", desc := "(III)I" } : Jvm.MethodName) jdk_42_method_157_code (3 : Nat) (Option.some Jvm.ClassFile.FieldType.int), Jvm.Cond.code ({ cls := "jdk/internal/util/Preconditions", name := "checkFromIndexSize", desc := "(IIILjava/util/function/BiFunction;)I" } : Jvm.MethodName) jdk_41_method_13_code (4 : Nat) (Option.some Jvm.ClassFile.FieldType.int)]
set_option maxRecDepth 65536 in
theorem codes_eq : words1.filter isCode = codes1 := rfl
theorem w_codes : ∀ c ∈ words1.filter isCode, c.before args0 about1 = true := by
  rw [codes_eq]
  intro c hc
  simp only [codes1, List.mem_cons, List.not_mem_nil, or_false] at hc
  rcases hc with rfl | rfl | rfl | rfl | rfl | rfl | rfl | rfl | rfl | rfl | rfl | rfl | rfl | rfl | rfl | rfl | rfl | rfl | rfl | rfl | rfl | rfl | rfl | rfl | rfl | rfl | rfl | rfl | rfl | rfl | rfl | rfl | rfl | rfl | rfl
  · exact w_c0
  · exact w_c1
  · exact w_c2
  · exact w_c3
  · exact w_c4
  · exact w_c5
  · exact w_c6
  · exact w_c7
  · exact w_c8
  · exact w_c9
  · exact w_c10
  · exact w_c11
  · exact w_c12
  · exact w_c13
  · exact w_c14
  · exact w_c15
  · exact w_c16
  · exact w_c17
  · exact w_c18
  · exact w_c19
  · exact w_c20
  · exact w_c21
  · exact w_c22
  · exact w_c23
  · exact w_c24
  · exact w_c25
  · exact w_c26
  · exact w_c27
  · exact w_c28
  · exact w_c29
  · exact w_c30
  · exact w_c31
  · exact w_c32
  · exact w_c33
  · exact w_c34
set_option maxRecDepth 65536 in
theorem w_t1 : (words1.take 24).all (fun c => isCode c || c.before args0 about1) = true := by decide +kernel
set_option maxRecDepth 65536 in
theorem w_t2 : ((words1.drop 24).take 24).all (fun c => isCode c || c.before args0 about1) = true := by decide +kernel
set_option maxRecDepth 65536 in
theorem w_t3 : (((words1.drop 24).drop 24).take 24).all (fun c => isCode c || c.before args0 about1) = true := by decide +kernel
set_option maxRecDepth 65536 in
theorem w_t4 : ((((words1.drop 24).drop 24).drop 24).take 24).all (fun c => isCode c || c.before args0 about1) = true := by decide +kernel
set_option maxRecDepth 65536 in
theorem w_t5 : (((((words1.drop 24).drop 24).drop 24).drop 24).take 24).all (fun c => isCode c || c.before args0 about1) = true := by decide +kernel
set_option maxRecDepth 65536 in
theorem w_t6 : (((((words1.drop 24).drop 24).drop 24).drop 24).drop 24).all (fun c => isCode c || c.before args0 about1) = true := by decide +kernel
theorem w_tables : (allAtoms (Jvm.Cond.code x code maxLocals ret :: tables_1)).before args0 about1 = true := by
  rw [allAtoms_all]
  show words1.all (fun c => c.before args0 about1) = true
  refine all_split ?_ w_codes
  rw [← List.take_append_drop 24 words1, List.all_append, w_t1, ← List.take_append_drop 24 (words1.drop 24), List.all_append, w_t2, ← List.take_append_drop 24 ((words1.drop 24).drop 24), List.all_append, w_t3, ← List.take_append_drop 24 (((words1.drop 24).drop 24).drop 24), List.all_append, w_t4, ← List.take_append_drop 24 ((((words1.drop 24).drop 24).drop 24).drop 24), List.all_append, w_t5, w_t6]
  rfl
set_option maxRecDepth 65536 in
theorem w_rest : rest_1_c.before args0 about1 = true := by decide +kernel
set_option maxRecDepth 65536 in
theorem w_case : (Jvm.Cond.and given_1 narrow_1).before args0 about1 = true := by decide +kernel
set_option maxRecDepth 65536 in
theorem w_consts : constsHeld consts_1 about1 := Jvm.Lit.constsHeldB_iff.mp (by decide +kernel)
theorem w_applies : (headSpec (Jvm.Cond.code x code maxLocals ret :: tables_1) room_1).applies x e0.platform about1 = true :=
  (Spec.applies_iff w_frames).mpr ⟨w_running, w_runnable, w_alone, w_named, w_hears, w_ripe, w_room, w_tables⟩
theorem atStart : AtStart classFile x code maxLocals ret World_1 tables_1 room_1 Calls_1 rest_1 Pre_1 launch0 p0 e0 about1 theMethod args0 below0 :=
  ⟨lists_1, trivial, launch0.admits_env _ _ _, launch0.least_env, fairChoices_fair.cas, fairChoices_fair.clock, w_frames, w_args, w_heap, w_applies, ⟨w_consts, trivial⟩, w_rest, w_case⟩
end start1
theorem witness_1 : WitnessClaimed_1 := ⟨start1.p0, start1.e0, start1.about1, start1.theMethod, start1.args0, start1.below0, start1.atStart⟩
end Jvm.Pilot.@@N@@
